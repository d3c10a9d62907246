/- impl.Walk over a tree of good form, stopped at the kind of its root: it tells this kind alone; conditions: the node reads as a tree of good form, of few kids, with an element at its root. -/
import Derived.Test.YteojmibojkkheaaGreatDoorTrav
import Derived.Test.YteojmibojkkheaaGreatDoorToD
namespace Go.Proofs.YteojmibojkkheaaGreatDoor
open Go.ChangeShapes Go.WideShapes Go.ChangeAt Go.RowKit
set_option linter.unusedVariables false

theorem Tryz.infoStr : (Tryz.prog.info? 9).map (fun i => (i.zero, i.size, i.bytes)) = some (some (.string ByteArray.empty), 1, 16) := by kernel_rfl

theorem grown_cell {w w1 : World} {o : Obj} (h : (w.alloc o).grownBy w1 none) {b : Nat} (hb : b < w.heap.size) (i : Nat) : w1.cell? ⟨b, i, none⟩ = w.cell? ⟨b, i, none⟩ ∧ w1.frozen? ⟨b, i, none⟩ = w.frozen? ⟨b, i, none⟩ := by
  have e : w1.heap[b]? = w.heap[b]? := (h.block b (by simp; omega) (by simp)).trans (Below.heap_alloc w o b hb)
  exact ⟨World.cell?_of_block (a := ⟨b, i, none⟩) e, World.frozen?_of_block (a := ⟨b, i, none⟩) e⟩

/-- What the closure leaves: one kind, in the block Bo. -/
def Told (N Bo : Nat) (k : ByteArray) (w w' : World) : Prop := Below N w w' ∧ ∃ g cap, w'.cell? ⟨Bo, 0, none⟩ = some (.slice (some ⟨g, 0, none⟩) 1 cap) ∧ w'.cell? ⟨g, 0, none⟩ = some (.string k)

set_option maxHeartbeats 2000000 in
theorem walk1C {v : Value} {k : ByteArray} (hk : KindOf v k) (w : World) (N Bo Bs : Nat) (ho : w.heap[Bo]? = some (.cells #[.slice none 0 0] 26 (0, 0))) (hs : w.cell? ⟨Bs, 0, none⟩ = some (.string k)) (hN : N ≤ Bo) (hne : Bs ≠ Bo) :
    Calls Tryz.prog 26 #[v, .pointer (some ⟨Bo, 0, none⟩), .pointer (some ⟨Bs, 0, none⟩)] w (fun e w' => e = .returned (.bool false) ∧ Told N Bo k w w') := by
  obtain ⟨i0, hi0, hz0, hz1, hz2⟩ := info_parts Tryz.infoStr
  have c0 := cell_of_one ho
  have f0 := free_of_one ho
  have hlo := World.block_lt_of_cell? w _ c0
  have hls := World.block_lt_of_cell? w _ hs
  have HO := Lib.hid ho
  have HN := Lib.hid hN
  clear ho hN
  go_enter Tryz.func26, Tryz.ntmps26
  go_wp2_with fail
  refine (hk _).mono ?_
  rintro e w' ⟨rfl, rfl⟩
  go_wp2_with (at_builtin; refine wpList_append_lies _ rfl (.tmp 8) (.tmp 10) 26 rfl w.heap.size 9 i0 _ 1 16 Tryz.underlying26 hi0 hz0 hz1 hz2 rfl (by decide) (.slice none 0 0) 0 [] rfl (World.ownsRow_nil _ _ _ _) ⟨w.heap.size, 0, none⟩ 1 1 [.string k] rfl rfl (World.news_of_block (cs := #[.string k]) (t := 9) (fr := (0, 0)) (heap_alloc_new w _)) (by simp [Value.oneCell']) (by omega) (by unfold maxLen; omega) (by omega) (by simp) (w.heap.size + 1) (by simp) ?_; intro gg cap w1 hown1 hgrow hat hlt'; have c1 := ((grown_cell hgrow hlo 0).1).trans c0; have f1 := ((grown_cell hgrow hlo 0).2).trans f0; have s1 := ((grown_cell hgrow hls 0).1).trans hs; have G1 := Lib.hid hown1; have G2 := Lib.hid hgrow; have G3 := Lib.hid hat; clear hown1 hgrow hat hlt' c0 f0 hs)
  go_ret
  have hg : gg = w.heap.size + 1 := by
    rcases G3.out with h | h
    · cases h
    · exact h
  refine ⟨by simp, ?_, gg, cap, ?_, ?_⟩
  · exact (((below1 w _).mono (Nat.le_refl _)).grown G2.out (by simp) (fun q hq => by cases hq)).mono (by have := HN.out; omega) |>.setCell HN.out _
  · exact World.cell?_setCell_same _ _ _ c1
  · rw [World.cell?_setCell_other _ _ _ _ (by intro e; have := congrArg Addr.block e; simp at this; omega)]
    exact G1.out.cellAt 0 (by omega)

theorem alloc_here {w : World} {o : Obj} {n : Nat} (h : n = w.heap.size) : (w.alloc o).heap[n]? = some o := by rw [h]; exact heap_alloc_new w o
/-- What Walk tells. -/
def WalkSaid (w : World) (k : ByteArray) (e : Ending) (w' : World) : Prop := ∃ g cap, e = .returned (.slice (some ⟨g, 0, none⟩) 1 cap) ∧ w'.cell? ⟨g, 0, none⟩ = some (.string k) ∧ Below w.heap.size w w'

set_option maxRecDepth 100000 in
set_option maxHeartbeats 2000000 in
theorem walkC (d : Nat) (t : Tree) (kv : Value) (w : World) (h : Able w d t kv) (hf : Fine d t) :
    Calls Tryz.prog 8 #[.agg #[.string t.kind, .string t.text, .int .i64 t.num, kv], .string t.kind] w (WalkSaid w t.kind) := by
  obtain ⟨a, c, rfl⟩ := h.kids.form
  have HA := Lib.hid h
  have HF := Lib.hid hf
  have B1 := below1 w (.cells #[.string t.kind, .string t.text, .int .i64 t.num, .slice a t.kids.length c] 24)
  have B2 := B1.trans ((below1 _ (.cells #[.string t.kind] 9)).mono B1.size)
  have B3 := Lib.hid (B2.trans ((below1 _ (.cells #[.slice none 0 0] 26)).mono B2.size))
  have cs : Hid ((((w.alloc (.cells #[.string t.kind, .string t.text, .int .i64 t.num, .slice a t.kids.length c] 24)).alloc (.cells #[.string t.kind] 9)).alloc (.cells #[.slice none 0 0] 26)).cell? ⟨w.heap.size + 1, 0, none⟩ = some (.string t.kind)) := by
    show World.cell? _ _ = _
    simp [go_sem]
  have co : Hid ((((w.alloc (.cells #[.string t.kind, .string t.text, .int .i64 t.num, .slice a t.kids.length c] 24)).alloc (.cells #[.string t.kind] 9)).alloc (.cells #[.slice none 0 0] 26)).heap[w.heap.size + 2]? = some (.cells #[.slice none 0 0] 26 (0, 0))) := by
    exact alloc_here (by simp)
  clear h hf B1 B2
  go_enter Tryz.func8, Tryz.ntmps8
  go_wp2_with fail
  refine (treeOfC d t _ _ (HA.out.below B3.out)).mono ?_
  rintro e w1 ⟨v, rfl, hv, hb1⟩
  obtain ⟨p, b, rfl, hp⟩ := hv.ptr HF.out.kind
  obtain ⟨f, hst⟩ := stopsC hp
  have ha := hst.ahead
  have hm := hst.met
  have hcf := hst.call
  have ST := Lib.hid hst
  have HP := Lib.hid hp
  have BB := Lib.hid hb1
  have C1 := Lib.hid (B3.out.trans (hb1.mono B3.out.size))
  have s1 : w.heap.size + 3 ≤ w1.heap.size := by have := hb1.size; simp at this; omega
  clear hst hp hb1 hv
  go_wp2_with fail
  refine (ST.out.trav b _ _ w1 (Told w.heap.size (w.heap.size + 2) t.kind w1) (walk1C (kindOfC HP.out _) w1 w.heap.size (w.heap.size + 2) (w.heap.size + 1) ?_ ?_ (by omega) (by omega))).mono ?_
  · rw [BB.out.block _ (by simp)]; exact co.out
  · exact (BB.out.cell (p := ⟨w.heap.size + 1, 0, none⟩) (by simp)).trans cs.out
  rintro e w2 ⟨rfl, hb2, g, cap, h1, h2⟩
  have C2 := Lib.hid (C1.out.trans hb2)
  have H2 := Lib.hid h2
  clear hb2 h2
  go_wp2_with fail
  go_ret
  exact ⟨g, cap, rfl, H2.out, C2.out⟩
end Go.Proofs.YteojmibojkkheaaGreatDoor
