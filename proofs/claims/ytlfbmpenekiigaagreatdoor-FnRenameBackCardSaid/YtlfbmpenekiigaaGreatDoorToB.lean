/- impl.treeOf: the elements that it makes, kind by kind; conditions: the node reads as a tree of good form, of few kids; it is known what treeOf makes of smaller trees. -/
import Derived.Test.YtlfbmpenekiigaaGreatDoorToA
import Derived.WalkKit
namespace Go.Proofs.YtlfbmpenekiigaaGreatDoor
open Go.ChangeShapes Go.WideShapes Go.ChangeAt Go.RowKit
set_option linter.unusedVariables false

set_option maxRecDepth 100000 in
set_option maxHeartbeats 2000000 in
theorem toName (d : Nat) (T : Makes 16 d) (t : Tree) (kv : Value) (w : World) (h : Able w (d + 1) t kv) (hk : t.kind = kName) (hn : t.num = 0) (hl : t.kids = []) :
    Calls Tryz.prog 16 #[.agg #[.string t.kind, .string t.text, .int .i64 t.num, kv]] w (Made w (d + 1) t) := by
  obtain ⟨a, c, rfl⟩ := h.kids.form
  have HA := Lib.hid h
  have B := Lib.hid (below1 w (.cells #[.string t.kind, .string t.text, .int .i64 t.num, .slice a t.kids.length c] 24))
  have BD : Hid (Below w.heap.size w (w.alloc (.cells #[.string t.kind, .string t.text, .int .i64 t.num, .slice a t.kids.length c] 24)).drew) := (below1 w (.cells #[.string t.kind, .string t.text, .int .i64 t.num, .slice a t.kids.length c] 24)).drew
  have HT := Lib.hid T
  have k0 := kind_is (a := t.kind) kName hk (l := [78, 97, 109, 101]) rfl
  have E := Lib.hid hk
  have HN := Lib.hid hn
  have HL := Lib.hid hl
  clear h T hk hn hl
  go_enter Tryz.func16, Tryz.ntmps16
  go_wp2_with fail
  go_ret
  exact made_new (by simp) B.out (.inl ⟨_, by rw [E.out]; exact .head _, HN.out, HL.out, rfl⟩)

set_option maxRecDepth 100000 in
set_option maxHeartbeats 2000000 in
theorem toBuiltinType (d : Nat) (T : Makes 16 d) (t : Tree) (kv : Value) (w : World) (h : Able w (d + 1) t kv) (hk : t.kind = kBuiltinType) (hn : t.num = 0) (hl : t.kids = []) :
    Calls Tryz.prog 16 #[.agg #[.string t.kind, .string t.text, .int .i64 t.num, kv]] w (Made w (d + 1) t) := by
  obtain ⟨a, c, rfl⟩ := h.kids.form
  have HA := Lib.hid h
  have B := Lib.hid (below1 w (.cells #[.string t.kind, .string t.text, .int .i64 t.num, .slice a t.kids.length c] 24))
  have BD : Hid (Below w.heap.size w (w.alloc (.cells #[.string t.kind, .string t.text, .int .i64 t.num, .slice a t.kids.length c] 24)).drew) := (below1 w (.cells #[.string t.kind, .string t.text, .int .i64 t.num, .slice a t.kids.length c] 24)).drew
  have HT := Lib.hid T
  have k0 := kind_ne (a := t.kind) kName (by rw [hk]; decide) (l := [78, 97, 109, 101]) rfl
  have k1 := kind_is (a := t.kind) kBuiltinType hk (l := [66, 117, 105, 108, 116, 105, 110, 84, 121, 112, 101]) rfl
  have E := Lib.hid hk
  have HN := Lib.hid hn
  have HL := Lib.hid hl
  clear h T hk hn hl
  go_enter Tryz.func16, Tryz.ntmps16
  go_wp2_with fail
  go_ret
  exact made_new (by simp) B.out (.inl ⟨_, by rw [E.out]; exact .tail _ (.head _), HN.out, HL.out, rfl⟩)

set_option maxRecDepth 100000 in
set_option maxHeartbeats 2000000 in
theorem toOperator (d : Nat) (T : Makes 16 d) (t : Tree) (kv : Value) (w : World) (h : Able w (d + 1) t kv) (hk : t.kind = kOperator) (hn : t.num = 0) (hl : t.kids = []) :
    Calls Tryz.prog 16 #[.agg #[.string t.kind, .string t.text, .int .i64 t.num, kv]] w (Made w (d + 1) t) := by
  obtain ⟨a, c, rfl⟩ := h.kids.form
  have HA := Lib.hid h
  have B := Lib.hid (below1 w (.cells #[.string t.kind, .string t.text, .int .i64 t.num, .slice a t.kids.length c] 24))
  have BD : Hid (Below w.heap.size w (w.alloc (.cells #[.string t.kind, .string t.text, .int .i64 t.num, .slice a t.kids.length c] 24)).drew) := (below1 w (.cells #[.string t.kind, .string t.text, .int .i64 t.num, .slice a t.kids.length c] 24)).drew
  have HT := Lib.hid T
  have k0 := kind_ne (a := t.kind) kName (by rw [hk]; decide) (l := [78, 97, 109, 101]) rfl
  have k1 := kind_ne (a := t.kind) kBuiltinType (by rw [hk]; decide) (l := [66, 117, 105, 108, 116, 105, 110, 84, 121, 112, 101]) rfl
  have k2 := kind_is (a := t.kind) kOperator hk (l := [79, 112, 101, 114, 97, 116, 111, 114]) rfl
  have E := Lib.hid hk
  have HN := Lib.hid hn
  have HL := Lib.hid hl
  clear h T hk hn hl
  go_enter Tryz.func16, Tryz.ntmps16
  go_wp2_with fail
  go_ret
  exact made_new (by simp) B.out (.inl ⟨_, by rw [E.out]; exact .tail _ (.tail _ (.head _)), HN.out, HL.out, rfl⟩)

set_option maxRecDepth 100000 in
set_option maxHeartbeats 2000000 in
theorem toConstructor (d : Nat) (T : Makes 16 d) (t : Tree) (kv : Value) (w : World) (h : Able w (d + 1) t kv) (x : Tree) (hk : t.kind = kConstructor) (ht : t.text = ByteArray.empty) (hn : t.num = 0) (hl : t.kids = [x]) (hx : x.kind ≠ ByteArray.empty) :
    Calls Tryz.prog 16 #[.agg #[.string t.kind, .string t.text, .int .i64 t.num, kv]] w (Made w (d + 1) t) := by
  obtain ⟨a, c, rfl⟩ := h.kids.form
  have HA := Lib.hid h
  have B := Lib.hid (below1 w (.cells #[.string t.kind, .string t.text, .int .i64 t.num, .slice a t.kids.length c] 24))
  have BD : Hid (Below w.heap.size w (w.alloc (.cells #[.string t.kind, .string t.text, .int .i64 t.num, .slice a t.kids.length c] 24)).drew) := (below1 w (.cells #[.string t.kind, .string t.text, .int .i64 t.num, .slice a t.kids.length c] 24)).drew
  have HT := Lib.hid T
  have k0 := kind_ne (a := t.kind) kName (by rw [hk]; decide) (l := [78, 97, 109, 101]) rfl
  have k1 := kind_ne (a := t.kind) kBuiltinType (by rw [hk]; decide) (l := [66, 117, 105, 108, 116, 105, 110, 84, 121, 112, 101]) rfl
  have k2 := kind_ne (a := t.kind) kOperator (by rw [hk]; decide) (l := [79, 112, 101, 114, 97, 116, 111, 114]) rfl
  have k3 := kind_is (a := t.kind) kConstructor hk (l := [67, 111, 110, 115, 116, 114, 117, 99, 116, 111, 114]) rfl
  have E := Lib.hid hk
  have HN := Lib.hid hn
  have HTX := Lib.hid ht
  have HL := Lib.hid hl
  have HX := Lib.hid hx
  clear h T hk hn hl ht hx
  go_enter Tryz.func16, Tryz.ntmps16
  go_wp2_with fail
  refine (kidC d HT.out t x _ 0 _ (HA.out.below B.out) (by rw [HL.out]; rfl)).mono ?_
  rintro e w1 ⟨u, rfl, hu, hb1⟩
  obtain ⟨pu, bu, rfl, _⟩ := hu.ptr HX.out
  have U := Lib.hid (hu.wide B.out.size)
  have B1 := Lib.hid (B.out.trans (hb1.mono B.out.size))
  clear hu hb1
  go_wp2_with fail
  go_ret
  exact made_new (by simp) B1.out (.inr (.inr (.inr (.inl ⟨_, x, _, by rw [E.out]; exact .head _, HTX.out, HN.out, HL.out, HX.out, U.out.put _, rfl⟩))))

set_option maxRecDepth 100000 in
set_option maxHeartbeats 2000000 in
theorem toDestructor (d : Nat) (T : Makes 16 d) (t : Tree) (kv : Value) (w : World) (h : Able w (d + 1) t kv) (x : Tree) (hk : t.kind = kDestructor) (ht : t.text = ByteArray.empty) (hn : t.num = 0) (hl : t.kids = [x]) (hx : x.kind ≠ ByteArray.empty) :
    Calls Tryz.prog 16 #[.agg #[.string t.kind, .string t.text, .int .i64 t.num, kv]] w (Made w (d + 1) t) := by
  obtain ⟨a, c, rfl⟩ := h.kids.form
  have HA := Lib.hid h
  have B := Lib.hid (below1 w (.cells #[.string t.kind, .string t.text, .int .i64 t.num, .slice a t.kids.length c] 24))
  have BD : Hid (Below w.heap.size w (w.alloc (.cells #[.string t.kind, .string t.text, .int .i64 t.num, .slice a t.kids.length c] 24)).drew) := (below1 w (.cells #[.string t.kind, .string t.text, .int .i64 t.num, .slice a t.kids.length c] 24)).drew
  have HT := Lib.hid T
  have k0 := kind_ne (a := t.kind) kName (by rw [hk]; decide) (l := [78, 97, 109, 101]) rfl
  have k1 := kind_ne (a := t.kind) kBuiltinType (by rw [hk]; decide) (l := [66, 117, 105, 108, 116, 105, 110, 84, 121, 112, 101]) rfl
  have k2 := kind_ne (a := t.kind) kOperator (by rw [hk]; decide) (l := [79, 112, 101, 114, 97, 116, 111, 114]) rfl
  have k3 := kind_ne (a := t.kind) kConstructor (by rw [hk]; decide) (l := [67, 111, 110, 115, 116, 114, 117, 99, 116, 111, 114]) rfl
  have k4 := kind_is (a := t.kind) kDestructor hk (l := [68, 101, 115, 116, 114, 117, 99, 116, 111, 114]) rfl
  have E := Lib.hid hk
  have HN := Lib.hid hn
  have HTX := Lib.hid ht
  have HL := Lib.hid hl
  have HX := Lib.hid hx
  clear h T hk hn hl ht hx
  go_enter Tryz.func16, Tryz.ntmps16
  go_wp2_with fail
  refine (kidC d HT.out t x _ 0 _ (HA.out.below B.out) (by rw [HL.out]; rfl)).mono ?_
  rintro e w1 ⟨u, rfl, hu, hb1⟩
  obtain ⟨pu, bu, rfl, _⟩ := hu.ptr HX.out
  have U := Lib.hid (hu.wide B.out.size)
  have B1 := Lib.hid (B.out.trans (hb1.mono B.out.size))
  clear hu hb1
  go_wp2_with fail
  go_ret
  exact made_new (by simp) B1.out (.inr (.inr (.inr (.inl ⟨_, x, _, by rw [E.out]; exact .tail _ (.head _), HTX.out, HN.out, HL.out, HX.out, U.out.put _, rfl⟩))))

set_option maxRecDepth 100000 in
set_option maxHeartbeats 2000000 in
theorem toQualified (d : Nat) (T : Makes 16 d) (t : Tree) (kv : Value) (w : World) (h : Able w (d + 1) t kv) (x y : Tree) (hk : t.kind = kQualified) (ht : t.text = ByteArray.empty) (hn : t.num = 0) (hl : t.kids = [x, y]) (hx : x.kind ≠ ByteArray.empty) (hy : y.kind ≠ ByteArray.empty) :
    Calls Tryz.prog 16 #[.agg #[.string t.kind, .string t.text, .int .i64 t.num, kv]] w (Made w (d + 1) t) := by
  obtain ⟨a, c, rfl⟩ := h.kids.form
  have HA := Lib.hid h
  have B := Lib.hid (below1 w (.cells #[.string t.kind, .string t.text, .int .i64 t.num, .slice a t.kids.length c] 24))
  have BD : Hid (Below w.heap.size w (w.alloc (.cells #[.string t.kind, .string t.text, .int .i64 t.num, .slice a t.kids.length c] 24)).drew) := (below1 w (.cells #[.string t.kind, .string t.text, .int .i64 t.num, .slice a t.kids.length c] 24)).drew
  have HT := Lib.hid T
  have k0 := kind_ne (a := t.kind) kName (by rw [hk]; decide) (l := [78, 97, 109, 101]) rfl
  have k1 := kind_ne (a := t.kind) kBuiltinType (by rw [hk]; decide) (l := [66, 117, 105, 108, 116, 105, 110, 84, 121, 112, 101]) rfl
  have k2 := kind_ne (a := t.kind) kOperator (by rw [hk]; decide) (l := [79, 112, 101, 114, 97, 116, 111, 114]) rfl
  have k3 := kind_ne (a := t.kind) kConstructor (by rw [hk]; decide) (l := [67, 111, 110, 115, 116, 114, 117, 99, 116, 111, 114]) rfl
  have k4 := kind_ne (a := t.kind) kDestructor (by rw [hk]; decide) (l := [68, 101, 115, 116, 114, 117, 99, 116, 111, 114]) rfl
  have k5 := kind_is (a := t.kind) kQualified hk (l := [81, 117, 97, 108, 105, 102, 105, 101, 100]) rfl
  have E := Lib.hid hk
  have HN := Lib.hid hn
  have hn1 : (t.num == 1) = false := by rw [hn]; rfl
  have HTX := Lib.hid ht
  have HL := Lib.hid hl
  have KX := Lib.hid hx
  have KY := Lib.hid hy
  clear h T hk hn hl ht hx hy
  go_enter Tryz.func16, Tryz.ntmps16
  go_wp2_with fail
  refine wp_region_tab 10 (TabK d x y [] (w.alloc (.cells #[.string t.kind, .string t.text, .int .i64 t.num, .slice a t.kids.length c] 24)).drew) (TabK.stable d x y [] _) (by kernel_rfl) (by kernel_rfl) ?_
  simp only [List.take_succ_cons, List.take_zero, List.drop_succ_cons, List.drop_zero]
  refine tab_value ?u1 ?g1 ?h1 ?_
  case g1 => kernel_rfl
  case h1 => (intro w' hw'; obtain ⟨hc', hf'⟩ := bcell hw'; go_simp; try with_reducible rfl)
  refine tab_call 33 ?a2 ?g2 ?h2 ?c2 ?_
  case g2 => kernel_rfl
  case h2 => (intro w' hw'; obtain ⟨hc', hf'⟩ := bcell hw'; go_simp; try with_reducible rfl)
  case c2 => (intro w' hw'; have W0 := Below.size hw'; refine (kidC d HT.out t x _ 0 w' (HA.out.below (BD.out.trans (Below.mono hw' BD.out.size))) (by rw [HL.out]; rfl)).mono ?_; rintro e w'' ⟨v, rfl, hv, hb⟩; exact ⟨v, ⟨fun _ _ => hv.wide W0, fun _ e => absurd e (by simp), fun e => absurd e (by decide)⟩, rfl, hb⟩)
  rintro v1 w1 he1 ⟨hv1, _, _⟩
  have V1 := hv1 rfl rfl
  obtain ⟨p1, b1, rfl, _⟩ := V1.ptr KX.out
  have A1_1 := Lib.hid V1
  have E1 := Lib.hid he1
  clear hv1 V1 he1
  refine tab_value ?u3 ?g3 ?h3 ?_
  case g3 => kernel_rfl
  case h3 => (intro w' hw'; obtain ⟨hc', hf'⟩ := bcell hw'; go_simp; try with_reducible rfl)
  refine tab_call 33 ?a4 ?g4 ?h4 ?c4 ?_
  case g4 => kernel_rfl
  case h4 => (intro w' hw'; obtain ⟨hc', hf'⟩ := bcell hw'; go_simp; try with_reducible rfl)
  case c4 => (intro w' hw'; have W0 := Below.size hw'; refine (kidC d HT.out t y _ 1 w' (HA.out.below (BD.out.trans (Below.mono hw' BD.out.size))) (by rw [HL.out]; rfl)).mono ?_; rintro e w'' ⟨v, rfl, hv, hb⟩; exact ⟨v, ⟨fun _ e => absurd e (by simp), fun _ _ => hv.wide W0, fun e => absurd e (by decide)⟩, rfl, hb⟩)
  rintro v2 w2 he2 ⟨_, hv2, _⟩
  have V2 := hv2 rfl rfl
  obtain ⟨p2, b2, rfl, _⟩ := V2.ptr KY.out
  have A2_2 := Lib.hid V2
  have E2 := Lib.hid (Ext.trans E1.out he2)
  have A1_2 := Lib.hid (A1_1.out.later he2)
  clear hv2 V2 he2
  refine tab_value ?u5 ?g5 ?h5 ?_
  case g5 => kernel_rfl
  case h5 => (intro w' hw'; obtain ⟨hc', hf'⟩ := bcell hw'; go_simp; try with_reducible rfl)
  refine tab_value ?u6 ?g6 ?h6 ?_
  case g6 => kernel_rfl
  case h6 => (intro w' hw'; obtain ⟨hc', hf'⟩ := bcell hw'; go_simp; try with_reducible rfl)
  refine tab_value ?u7 ?g7 ?h7 ?_
  case g7 => kernel_rfl
  case h7 => (intro w' hw'; obtain ⟨hc', hf'⟩ := bcell hw'; go_simp; try with_reducible rfl)
  refine tab_value ?u8 ?g8 ?h8 ?_
  case g8 => kernel_rfl
  case h8 => (intro w' hw'; obtain ⟨hc', hf'⟩ := bcell hw'; go_simp; try with_reducible rfl)
  refine tab_box ?o9 ?g9 ?h9 ?_
  case g9 => kernel_rfl
  case h9 => (intro w' hw'; obtain ⟨hc', hf'⟩ := bcell hw'; go_simp; try with_reducible rfl)
  intro bz wz hez hlz hsz hbz
  have EZ := Lib.hid (Ext.trans E2.out hez)
  have A1_z := Lib.hid (A1_2.out.later hez)
  have A2_z := Lib.hid (A2_2.out.later hez)
  have NZ : Hid (New w wz bz) := ⟨Nat.le_trans BD.out.size hlz, hsz⟩
  have HZ := Lib.hid hbz
  clear hez hlz hsz hbz
  refine tab_value ?u10 ?g10 ?h10 ?_
  case g10 => kernel_rfl
  case h10 => (intro w' hw'; obtain ⟨hc', hf'⟩ := bcell hw'; go_simp; try with_reducible rfl)
  refine wpTab_nil (fun wy hey => ?_)
  have EY := Lib.hid (Ext.trans EZ.out hey)
  have A1 := Lib.hid ((A1_z.out.later hey).wide BD.out.size)
  have A2 := Lib.hid ((A2_z.out.later hey).wide BD.out.size)
  have HY := Lib.hid ((hey.block bz NZ.out.2).trans HZ.out)
  have NY := Lib.hid (NZ.out.wide (w0 := w) (Nat.le_refl _) hey.size)
  have BY := Lib.hid (BD.out.trans (Below.mono EY.out BD.out.size))
  clear hey
  go_wp2_with fail
  go_ret
  exact ⟨_, rfl, ast_new NY.out HY.out (.inr (.inr (.inr (.inr (.inr (.inl ⟨_, x, y, _, _, by rw [E.out]; exact .head _, HTX.out, HN.out, HL.out, KX.out, KY.out, A1.out, A2.out, rfl⟩)))))), BY.out⟩

set_option maxRecDepth 100000 in
set_option maxHeartbeats 2000000 in
theorem toTemplate (d : Nat) (T : Makes 16 d) (t : Tree) (kv : Value) (w : World) (h : Able w (d + 1) t kv) (x : Tree) (l : List Tree) (hk : t.kind = kTemplate) (ht : t.text = ByteArray.empty) (hn : t.num = 0) (hl : t.kids = x :: l) (hx : x.kind ≠ ByteArray.empty) (hy : ∀ y ∈ l, y.kind ≠ ByteArray.empty) :
    Calls Tryz.prog 16 #[.agg #[.string t.kind, .string t.text, .int .i64 t.num, kv]] w (Made w (d + 1) t) := by
  obtain ⟨a, c, rfl⟩ := h.kids.form
  have HA := Lib.hid h
  have B := Lib.hid (below1 w (.cells #[.string t.kind, .string t.text, .int .i64 t.num, .slice a t.kids.length c] 24))
  have BD : Hid (Below w.heap.size w (w.alloc (.cells #[.string t.kind, .string t.text, .int .i64 t.num, .slice a t.kids.length c] 24)).drew) := (below1 w (.cells #[.string t.kind, .string t.text, .int .i64 t.num, .slice a t.kids.length c] 24)).drew
  have HT := Lib.hid T
  have k0 := kind_ne (a := t.kind) kName (by rw [hk]; decide) (l := [78, 97, 109, 101]) rfl
  have k1 := kind_ne (a := t.kind) kBuiltinType (by rw [hk]; decide) (l := [66, 117, 105, 108, 116, 105, 110, 84, 121, 112, 101]) rfl
  have k2 := kind_ne (a := t.kind) kOperator (by rw [hk]; decide) (l := [79, 112, 101, 114, 97, 116, 111, 114]) rfl
  have k3 := kind_ne (a := t.kind) kConstructor (by rw [hk]; decide) (l := [67, 111, 110, 115, 116, 114, 117, 99, 116, 111, 114]) rfl
  have k4 := kind_ne (a := t.kind) kDestructor (by rw [hk]; decide) (l := [68, 101, 115, 116, 114, 117, 99, 116, 111, 114]) rfl
  have k5 := kind_ne (a := t.kind) kQualified (by rw [hk]; decide) (l := [81, 117, 97, 108, 105, 102, 105, 101, 100]) rfl
  have k6 := kind_is (a := t.kind) kTemplate hk (l := [84, 101, 109, 112, 108, 97, 116, 101]) rfl
  have E := Lib.hid hk
  have HN := Lib.hid hn
  have HTX := Lib.hid ht
  have HL := Lib.hid hl
  have KX := Lib.hid hx
  have KL := Lib.hid hy
  have DL : Hid (t.kids.drop 1 = l) := by show t.kids.drop 1 = l; rw [hl]; rfl
  clear h T hk hn hl ht hy hx
  go_enter Tryz.func16, Tryz.ntmps16
  go_wp2_with fail
  refine wp_region_tab 7 (TabK d x x l (w.alloc (.cells #[.string t.kind, .string t.text, .int .i64 t.num, .slice a t.kids.length c] 24)).drew) (TabK.stable d x x l _) (by kernel_rfl) (by kernel_rfl) ?_
  simp only [List.take_succ_cons, List.take_zero, List.drop_succ_cons, List.drop_zero]
  refine tab_value ?u1 ?g1 ?h1 ?_
  case g1 => kernel_rfl
  case h1 => (intro w' hw'; obtain ⟨hc', hf'⟩ := bcell hw'; go_simp; try with_reducible rfl)
  refine tab_call 33 ?a2 ?g2 ?h2 ?c2 ?_
  case g2 => kernel_rfl
  case h2 => (intro w' hw'; obtain ⟨hc', hf'⟩ := bcell hw'; go_simp; try with_reducible rfl)
  case c2 => (intro w' hw'; have W0 := Below.size hw'; refine (kidC d HT.out t x _ 0 w' (HA.out.below (BD.out.trans (Below.mono hw' BD.out.size))) (by rw [HL.out]; rfl)).mono ?_; rintro e w'' ⟨v, rfl, hv, hb⟩; exact ⟨v, ⟨fun _ _ => hv.wide W0, fun _ e => absurd e (by simp), fun e => absurd e (by decide)⟩, rfl, hb⟩)
  rintro v1 w1 he1 ⟨hv1, _, _⟩
  have V1 := hv1 rfl rfl
  obtain ⟨p1, b1, rfl, _⟩ := V1.ptr KX.out
  have A1_1 := Lib.hid V1
  have E1 := Lib.hid he1
  clear hv1 V1 he1
  refine tab_value ?u3 ?g3 ?h3 ?_
  case g3 => kernel_rfl
  case h3 => (intro w' hw'; obtain ⟨hc', hf'⟩ := bcell hw'; go_simp; try with_reducible rfl)
  refine tab_call 34 ?a4 ?g4 ?h4 ?c4 ?_
  case g4 => kernel_rfl
  case h4 => (intro w' hw'; obtain ⟨hc', hf'⟩ := bcell hw'; go_simp; try with_reducible rfl)
  case c4 => (intro w' hw'; have W0 := Below.size hw'; refine (kidsC d HT.out t _ 1 w' (HA.out.below (BD.out.trans (Below.mono hw' BD.out.size))) (by rw [HL.out]; simp) (fun i z hi hz => by rw [HL.out] at hz; cases i with | zero => omega | succ i => exact KL.out z (List.mem_of_getElem? hz))).mono ?_; rintro e w'' ⟨v, rfl, hv, hb⟩; exact ⟨v, ⟨fun e => absurd e (by decide), fun e => absurd e (by decide), fun _ => by rw [← DL.out]; exact hv.wide W0⟩, rfl, hb⟩)
  rintro v2 w2 he2 ⟨_, _, hv2⟩
  have V2 := hv2 rfl
  obtain ⟨a2, c2, rfl⟩ := V2.form
  have A2_2 := Lib.hid V2
  have E2 := Lib.hid (Ext.trans E1.out he2)
  have A1_2 := Lib.hid (A1_1.out.later he2)
  clear hv2 V2 he2
  refine tab_value ?u5 ?g5 ?h5 ?_
  case g5 => kernel_rfl
  case h5 => (intro w' hw'; obtain ⟨hc', hf'⟩ := bcell hw'; go_simp; try with_reducible rfl)
  refine tab_box ?o6 ?g6 ?h6 ?_
  case g6 => kernel_rfl
  case h6 => (intro w' hw'; obtain ⟨hc', hf'⟩ := bcell hw'; go_simp; try with_reducible rfl)
  intro bz wz hez hlz hsz hbz
  have EZ := Lib.hid (Ext.trans E2.out hez)
  have A1_z := Lib.hid (A1_2.out.later hez)
  have A2_z := Lib.hid (A2_2.out.later hez)
  have NZ : Hid (New w wz bz) := ⟨Nat.le_trans BD.out.size hlz, hsz⟩
  have HZ := Lib.hid hbz
  clear hez hlz hsz hbz
  refine tab_value ?u7 ?g7 ?h7 ?_
  case g7 => kernel_rfl
  case h7 => (intro w' hw'; obtain ⟨hc', hf'⟩ := bcell hw'; go_simp; try with_reducible rfl)
  refine wpTab_nil (fun wy hey => ?_)
  have EY := Lib.hid (Ext.trans EZ.out hey)
  have A1 := Lib.hid ((A1_z.out.later hey).wide BD.out.size)
  have A2 := Lib.hid ((A2_z.out.later hey).wide BD.out.size)
  have HY := Lib.hid ((hey.block bz NZ.out.2).trans HZ.out)
  have NY := Lib.hid (NZ.out.wide (w0 := w) (Nat.le_refl _) hey.size)
  have BY := Lib.hid (BD.out.trans (Below.mono EY.out BD.out.size))
  clear hey
  go_wp2_with fail
  go_ret
  exact ⟨_, rfl, ast_new NY.out HY.out (.inr (.inr (.inr (.inr (.inr (.inr (.inr (.inr (.inr (.inl ⟨x, l, _, _, E.out, rfl, HTX.out, HN.out, HL.out, KX.out, KL.out, A1.out, A2.out, rfl⟩)))))))))), BY.out⟩

set_option maxRecDepth 100000 in
set_option maxHeartbeats 2000000 in
theorem toTyped (d : Nat) (T : Makes 16 d) (t : Tree) (kv : Value) (w : World) (h : Able w (d + 1) t kv) (x y : Tree) (hk : t.kind = kTyped) (ht : t.text = ByteArray.empty) (hn : t.num = 0) (hl : t.kids = [x, y]) (hx : x.kind ≠ ByteArray.empty) (hy : y.kind ≠ ByteArray.empty) :
    Calls Tryz.prog 16 #[.agg #[.string t.kind, .string t.text, .int .i64 t.num, kv]] w (Made w (d + 1) t) := by
  obtain ⟨a, c, rfl⟩ := h.kids.form
  have HA := Lib.hid h
  have B := Lib.hid (below1 w (.cells #[.string t.kind, .string t.text, .int .i64 t.num, .slice a t.kids.length c] 24))
  have BD : Hid (Below w.heap.size w (w.alloc (.cells #[.string t.kind, .string t.text, .int .i64 t.num, .slice a t.kids.length c] 24)).drew) := (below1 w (.cells #[.string t.kind, .string t.text, .int .i64 t.num, .slice a t.kids.length c] 24)).drew
  have HT := Lib.hid T
  have k0 := kind_ne (a := t.kind) kName (by rw [hk]; decide) (l := [78, 97, 109, 101]) rfl
  have k1 := kind_ne (a := t.kind) kBuiltinType (by rw [hk]; decide) (l := [66, 117, 105, 108, 116, 105, 110, 84, 121, 112, 101]) rfl
  have k2 := kind_ne (a := t.kind) kOperator (by rw [hk]; decide) (l := [79, 112, 101, 114, 97, 116, 111, 114]) rfl
  have k3 := kind_ne (a := t.kind) kConstructor (by rw [hk]; decide) (l := [67, 111, 110, 115, 116, 114, 117, 99, 116, 111, 114]) rfl
  have k4 := kind_ne (a := t.kind) kDestructor (by rw [hk]; decide) (l := [68, 101, 115, 116, 114, 117, 99, 116, 111, 114]) rfl
  have k5 := kind_ne (a := t.kind) kQualified (by rw [hk]; decide) (l := [81, 117, 97, 108, 105, 102, 105, 101, 100]) rfl
  have k6 := kind_ne (a := t.kind) kTemplate (by rw [hk]; decide) (l := [84, 101, 109, 112, 108, 97, 116, 101]) rfl
  have k7 := kind_is (a := t.kind) kTyped hk (l := [84, 121, 112, 101, 100]) rfl
  have E := Lib.hid hk
  have HN := Lib.hid hn
  have HTX := Lib.hid ht
  have HL := Lib.hid hl
  have KX := Lib.hid hx
  have KY := Lib.hid hy
  clear h T hk hn hl ht hx hy
  go_enter Tryz.func16, Tryz.ntmps16
  go_wp2_with fail
  refine wp_region_tab 7 (TabK d x y [] (w.alloc (.cells #[.string t.kind, .string t.text, .int .i64 t.num, .slice a t.kids.length c] 24)).drew) (TabK.stable d x y [] _) (by kernel_rfl) (by kernel_rfl) ?_
  simp only [List.take_succ_cons, List.take_zero, List.drop_succ_cons, List.drop_zero]
  refine tab_value ?u1 ?g1 ?h1 ?_
  case g1 => kernel_rfl
  case h1 => (intro w' hw'; obtain ⟨hc', hf'⟩ := bcell hw'; go_simp; try with_reducible rfl)
  refine tab_call 33 ?a2 ?g2 ?h2 ?c2 ?_
  case g2 => kernel_rfl
  case h2 => (intro w' hw'; obtain ⟨hc', hf'⟩ := bcell hw'; go_simp; try with_reducible rfl)
  case c2 => (intro w' hw'; have W0 := Below.size hw'; refine (kidC d HT.out t x _ 0 w' (HA.out.below (BD.out.trans (Below.mono hw' BD.out.size))) (by rw [HL.out]; rfl)).mono ?_; rintro e w'' ⟨v, rfl, hv, hb⟩; exact ⟨v, ⟨fun _ _ => hv.wide W0, fun _ e => absurd e (by simp), fun e => absurd e (by decide)⟩, rfl, hb⟩)
  rintro v1 w1 he1 ⟨hv1, _, _⟩
  have V1 := hv1 rfl rfl
  obtain ⟨p1, b1, rfl, _⟩ := V1.ptr KX.out
  have A1_1 := Lib.hid V1
  have E1 := Lib.hid he1
  clear hv1 V1 he1
  refine tab_value ?u3 ?g3 ?h3 ?_
  case g3 => kernel_rfl
  case h3 => (intro w' hw'; obtain ⟨hc', hf'⟩ := bcell hw'; go_simp; try with_reducible rfl)
  refine tab_call 33 ?a4 ?g4 ?h4 ?c4 ?_
  case g4 => kernel_rfl
  case h4 => (intro w' hw'; obtain ⟨hc', hf'⟩ := bcell hw'; go_simp; try with_reducible rfl)
  case c4 => (intro w' hw'; have W0 := Below.size hw'; refine (kidC d HT.out t y _ 1 w' (HA.out.below (BD.out.trans (Below.mono hw' BD.out.size))) (by rw [HL.out]; rfl)).mono ?_; rintro e w'' ⟨v, rfl, hv, hb⟩; exact ⟨v, ⟨fun _ e => absurd e (by simp), fun _ _ => hv.wide W0, fun e => absurd e (by decide)⟩, rfl, hb⟩)
  rintro v2 w2 he2 ⟨_, hv2, _⟩
  have V2 := hv2 rfl rfl
  obtain ⟨p2, b2, rfl, _⟩ := V2.ptr KY.out
  have A2_2 := Lib.hid V2
  have E2 := Lib.hid (Ext.trans E1.out he2)
  have A1_2 := Lib.hid (A1_1.out.later he2)
  clear hv2 V2 he2
  refine tab_value ?u5 ?g5 ?h5 ?_
  case g5 => kernel_rfl
  case h5 => (intro w' hw'; obtain ⟨hc', hf'⟩ := bcell hw'; go_simp; try with_reducible rfl)
  refine tab_box ?o6 ?g6 ?h6 ?_
  case g6 => kernel_rfl
  case h6 => (intro w' hw'; obtain ⟨hc', hf'⟩ := bcell hw'; go_simp; try with_reducible rfl)
  intro bz wz hez hlz hsz hbz
  have EZ := Lib.hid (Ext.trans E2.out hez)
  have A1_z := Lib.hid (A1_2.out.later hez)
  have A2_z := Lib.hid (A2_2.out.later hez)
  have NZ : Hid (New w wz bz) := ⟨Nat.le_trans BD.out.size hlz, hsz⟩
  have HZ := Lib.hid hbz
  clear hez hlz hsz hbz
  refine tab_value ?u7 ?g7 ?h7 ?_
  case g7 => kernel_rfl
  case h7 => (intro w' hw'; obtain ⟨hc', hf'⟩ := bcell hw'; go_simp; try with_reducible rfl)
  refine wpTab_nil (fun wy hey => ?_)
  have EY := Lib.hid (Ext.trans EZ.out hey)
  have A1 := Lib.hid ((A1_z.out.later hey).wide BD.out.size)
  have A2 := Lib.hid ((A2_z.out.later hey).wide BD.out.size)
  have HY := Lib.hid ((hey.block bz NZ.out.2).trans HZ.out)
  have NY := Lib.hid (NZ.out.wide (w0 := w) (Nat.le_refl _) hey.size)
  have BY := Lib.hid (BD.out.trans (Below.mono EY.out BD.out.size))
  clear hey
  go_wp2_with fail
  go_ret
  exact ⟨_, rfl, ast_new NY.out HY.out (.inr (.inr (.inr (.inr (.inr (.inl ⟨_, x, y, _, _, by rw [E.out]; exact .tail _ (.head _), HTX.out, HN.out, HL.out, KX.out, KY.out, A1.out, A2.out, rfl⟩)))))), BY.out⟩

set_option maxRecDepth 100000 in
set_option maxHeartbeats 2000000 in
theorem toFunctionType (d : Nat) (T : Makes 16 d) (t : Tree) (kv : Value) (w : World) (h : Able w (d + 1) t kv) (x : Tree) (l : List Tree) (hk : t.kind = kFunctionType) (ht : t.text = ByteArray.empty) (hn : t.num = 0) (hl : t.kids = x :: l) (hy : ∀ y ∈ l, y.kind ≠ ByteArray.empty) :
    Calls Tryz.prog 16 #[.agg #[.string t.kind, .string t.text, .int .i64 t.num, kv]] w (Made w (d + 1) t) := by
  obtain ⟨a, c, rfl⟩ := h.kids.form
  have HA := Lib.hid h
  have B := Lib.hid (below1 w (.cells #[.string t.kind, .string t.text, .int .i64 t.num, .slice a t.kids.length c] 24))
  have BD : Hid (Below w.heap.size w (w.alloc (.cells #[.string t.kind, .string t.text, .int .i64 t.num, .slice a t.kids.length c] 24)).drew) := (below1 w (.cells #[.string t.kind, .string t.text, .int .i64 t.num, .slice a t.kids.length c] 24)).drew
  have HT := Lib.hid T
  have k0 := kind_ne (a := t.kind) kName (by rw [hk]; decide) (l := [78, 97, 109, 101]) rfl
  have k1 := kind_ne (a := t.kind) kBuiltinType (by rw [hk]; decide) (l := [66, 117, 105, 108, 116, 105, 110, 84, 121, 112, 101]) rfl
  have k2 := kind_ne (a := t.kind) kOperator (by rw [hk]; decide) (l := [79, 112, 101, 114, 97, 116, 111, 114]) rfl
  have k3 := kind_ne (a := t.kind) kConstructor (by rw [hk]; decide) (l := [67, 111, 110, 115, 116, 114, 117, 99, 116, 111, 114]) rfl
  have k4 := kind_ne (a := t.kind) kDestructor (by rw [hk]; decide) (l := [68, 101, 115, 116, 114, 117, 99, 116, 111, 114]) rfl
  have k5 := kind_ne (a := t.kind) kQualified (by rw [hk]; decide) (l := [81, 117, 97, 108, 105, 102, 105, 101, 100]) rfl
  have k6 := kind_ne (a := t.kind) kTemplate (by rw [hk]; decide) (l := [84, 101, 109, 112, 108, 97, 116, 101]) rfl
  have k7 := kind_ne (a := t.kind) kTyped (by rw [hk]; decide) (l := [84, 121, 112, 101, 100]) rfl
  have k8 := kind_is (a := t.kind) kFunctionType hk (l := [70, 117, 110, 99, 116, 105, 111, 110, 84, 121, 112, 101]) rfl
  have E := Lib.hid hk
  have HN := Lib.hid hn
  have hn1 : (t.num == 1) = false := by rw [hn]; rfl
  have HTX := Lib.hid ht
  have HL := Lib.hid hl
  have KL := Lib.hid hy
  have DL : Hid (t.kids.drop 1 = l) := by show t.kids.drop 1 = l; rw [hl]; rfl
  clear h T hk hn hl ht hy
  go_enter Tryz.func16, Tryz.ntmps16
  go_wp2_with fail
  refine wp_region_tab 10 (TabK d x x l (w.alloc (.cells #[.string t.kind, .string t.text, .int .i64 t.num, .slice a t.kids.length c] 24)).drew) (TabK.stable d x x l _) (by kernel_rfl) (by kernel_rfl) ?_
  simp only [List.take_succ_cons, List.take_zero, List.drop_succ_cons, List.drop_zero]
  refine tab_value ?u1 ?g1 ?h1 ?_
  case g1 => kernel_rfl
  case h1 => (intro w' hw'; obtain ⟨hc', hf'⟩ := bcell hw'; go_simp; try with_reducible rfl)
  refine tab_call 33 ?a2 ?g2 ?h2 ?c2 ?_
  case g2 => kernel_rfl
  case h2 => (intro w' hw'; obtain ⟨hc', hf'⟩ := bcell hw'; go_simp; try with_reducible rfl)
  case c2 => (intro w' hw'; have W0 := Below.size hw'; refine (kidC d HT.out t x _ 0 w' (HA.out.below (BD.out.trans (Below.mono hw' BD.out.size))) (by rw [HL.out]; rfl)).mono ?_; rintro e w'' ⟨v, rfl, hv, hb⟩; exact ⟨v, ⟨fun _ _ => hv.wide W0, fun _ e => absurd e (by simp), fun e => absurd e (by decide)⟩, rfl, hb⟩)
  rintro v1 w1 he1 ⟨hv1, _, _⟩
  have V1 := hv1 rfl rfl
  have A1_1 := Lib.hid V1
  have E1 := Lib.hid he1
  clear hv1 V1 he1
  rcases A1_1.out.ptr2 with rfl | ⟨p1, b1, rfl⟩
  · skip
    refine tab_value ?u3 ?g3 ?h3 ?_
    case g3 => kernel_rfl
    case h3 => (intro w' hw'; obtain ⟨hc', hf'⟩ := bcell hw'; go_simp; try with_reducible rfl)
    refine tab_call 34 ?a4 ?g4 ?h4 ?c4 ?_
    case g4 => kernel_rfl
    case h4 => (intro w' hw'; obtain ⟨hc', hf'⟩ := bcell hw'; go_simp; try with_reducible rfl)
    case c4 => (intro w' hw'; have W0 := Below.size hw'; refine (kidsC d HT.out t _ 1 w' (HA.out.below (BD.out.trans (Below.mono hw' BD.out.size))) (by rw [HL.out]; simp) (fun i z hi hz => by rw [HL.out] at hz; cases i with | zero => omega | succ i => exact KL.out z (List.mem_of_getElem? hz))).mono ?_; rintro e w'' ⟨v, rfl, hv, hb⟩; exact ⟨v, ⟨fun e => absurd e (by decide), fun e => absurd e (by decide), fun _ => by rw [← DL.out]; exact hv.wide W0⟩, rfl, hb⟩)
    rintro v2 w2 he2 ⟨_, _, hv2⟩
    have V2 := hv2 rfl
    obtain ⟨a2, c2, rfl⟩ := V2.form
    have A2_2 := Lib.hid V2
    have E2 := Lib.hid (Ext.trans E1.out he2)
    have A1_2 := Lib.hid (A1_1.out.later he2)
    clear hv2 V2 he2
    refine tab_value ?u5 ?g5 ?h5 ?_
    case g5 => kernel_rfl
    case h5 => (intro w' hw'; obtain ⟨hc', hf'⟩ := bcell hw'; go_simp; try with_reducible rfl)
    refine tab_value ?u6 ?g6 ?h6 ?_
    case g6 => kernel_rfl
    case h6 => (intro w' hw'; obtain ⟨hc', hf'⟩ := bcell hw'; go_simp; try with_reducible rfl)
    refine tab_value ?u7 ?g7 ?h7 ?_
    case g7 => kernel_rfl
    case h7 => (intro w' hw'; obtain ⟨hc', hf'⟩ := bcell hw'; go_simp; try with_reducible rfl)
    refine tab_value ?u8 ?g8 ?h8 ?_
    case g8 => kernel_rfl
    case h8 => (intro w' hw'; obtain ⟨hc', hf'⟩ := bcell hw'; go_simp; try with_reducible rfl)
    refine tab_box ?o9 ?g9 ?h9 ?_
    case g9 => kernel_rfl
    case h9 => (intro w' hw'; obtain ⟨hc', hf'⟩ := bcell hw'; go_simp; try with_reducible rfl)
    intro bz wz hez hlz hsz hbz
    have EZ := Lib.hid (Ext.trans E2.out hez)
    have A1_z := Lib.hid (A1_2.out.later hez)
    have A2_z := Lib.hid (A2_2.out.later hez)
    have NZ : Hid (New w wz bz) := ⟨Nat.le_trans BD.out.size hlz, hsz⟩
    have HZ := Lib.hid hbz
    clear hez hlz hsz hbz
    refine tab_value ?u10 ?g10 ?h10 ?_
    case g10 => kernel_rfl
    case h10 => (intro w' hw'; obtain ⟨hc', hf'⟩ := bcell hw'; go_simp; try with_reducible rfl)
    refine wpTab_nil (fun wy hey => ?_)
    have EY := Lib.hid (Ext.trans EZ.out hey)
    have A1 := Lib.hid ((A1_z.out.later hey).wide BD.out.size)
    have A2 := Lib.hid ((A2_z.out.later hey).wide BD.out.size)
    have HY := Lib.hid ((hey.block bz NZ.out.2).trans HZ.out)
    have NY := Lib.hid (NZ.out.wide (w0 := w) (Nat.le_refl _) hey.size)
    have BY := Lib.hid (BD.out.trans (Below.mono EY.out BD.out.size))
    clear hey
    go_wp2_with fail
    go_ret
    exact ⟨_, rfl, ast_new NY.out HY.out (.inr (.inr (.inr (.inr (.inr (.inr (.inr (.inr (.inr (.inr (⟨x, l, _, _, E.out, rfl, HTX.out, HN.out, HL.out, KL.out, A1.out, A2.out, rfl⟩))))))))))), BY.out⟩
  · skip
    refine tab_value ?u11 ?g11 ?h11 ?_
    case g11 => kernel_rfl
    case h11 => (intro w' hw'; obtain ⟨hc', hf'⟩ := bcell hw'; go_simp; try with_reducible rfl)
    refine tab_call 34 ?a12 ?g12 ?h12 ?c12 ?_
    case g12 => kernel_rfl
    case h12 => (intro w' hw'; obtain ⟨hc', hf'⟩ := bcell hw'; go_simp; try with_reducible rfl)
    case c12 => (intro w' hw'; have W0 := Below.size hw'; refine (kidsC d HT.out t _ 1 w' (HA.out.below (BD.out.trans (Below.mono hw' BD.out.size))) (by rw [HL.out]; simp) (fun i z hi hz => by rw [HL.out] at hz; cases i with | zero => omega | succ i => exact KL.out z (List.mem_of_getElem? hz))).mono ?_; rintro e w'' ⟨v, rfl, hv, hb⟩; exact ⟨v, ⟨fun e => absurd e (by decide), fun e => absurd e (by decide), fun _ => by rw [← DL.out]; exact hv.wide W0⟩, rfl, hb⟩)
    rintro v2 w2 he2 ⟨_, _, hv2⟩
    have V2 := hv2 rfl
    obtain ⟨a2, c2, rfl⟩ := V2.form
    have A2_2 := Lib.hid V2
    have E2 := Lib.hid (Ext.trans E1.out he2)
    have A1_2 := Lib.hid (A1_1.out.later he2)
    clear hv2 V2 he2
    refine tab_value ?u13 ?g13 ?h13 ?_
    case g13 => kernel_rfl
    case h13 => (intro w' hw'; obtain ⟨hc', hf'⟩ := bcell hw'; go_simp; try with_reducible rfl)
    refine tab_value ?u14 ?g14 ?h14 ?_
    case g14 => kernel_rfl
    case h14 => (intro w' hw'; obtain ⟨hc', hf'⟩ := bcell hw'; go_simp; try with_reducible rfl)
    refine tab_value ?u15 ?g15 ?h15 ?_
    case g15 => kernel_rfl
    case h15 => (intro w' hw'; obtain ⟨hc', hf'⟩ := bcell hw'; go_simp; try with_reducible rfl)
    refine tab_value ?u16 ?g16 ?h16 ?_
    case g16 => kernel_rfl
    case h16 => (intro w' hw'; obtain ⟨hc', hf'⟩ := bcell hw'; go_simp; try with_reducible rfl)
    refine tab_box ?o17 ?g17 ?h17 ?_
    case g17 => kernel_rfl
    case h17 => (intro w' hw'; obtain ⟨hc', hf'⟩ := bcell hw'; go_simp; try with_reducible rfl)
    intro bz wz hez hlz hsz hbz
    have EZ := Lib.hid (Ext.trans E2.out hez)
    have A1_z := Lib.hid (A1_2.out.later hez)
    have A2_z := Lib.hid (A2_2.out.later hez)
    have NZ : Hid (New w wz bz) := ⟨Nat.le_trans BD.out.size hlz, hsz⟩
    have HZ := Lib.hid hbz
    clear hez hlz hsz hbz
    refine tab_value ?u18 ?g18 ?h18 ?_
    case g18 => kernel_rfl
    case h18 => (intro w' hw'; obtain ⟨hc', hf'⟩ := bcell hw'; go_simp; try with_reducible rfl)
    refine wpTab_nil (fun wy hey => ?_)
    have EY := Lib.hid (Ext.trans EZ.out hey)
    have A1 := Lib.hid ((A1_z.out.later hey).wide BD.out.size)
    have A2 := Lib.hid ((A2_z.out.later hey).wide BD.out.size)
    have HY := Lib.hid ((hey.block bz NZ.out.2).trans HZ.out)
    have NY := Lib.hid (NZ.out.wide (w0 := w) (Nat.le_refl _) hey.size)
    have BY := Lib.hid (BD.out.trans (Below.mono EY.out BD.out.size))
    clear hey
    go_wp2_with fail
    go_ret
    exact ⟨_, rfl, ast_new NY.out HY.out (.inr (.inr (.inr (.inr (.inr (.inr (.inr (.inr (.inr (.inr (⟨x, l, _, _, E.out, rfl, HTX.out, HN.out, HL.out, KL.out, A1.out, A2.out, rfl⟩))))))))))), BY.out⟩

set_option maxRecDepth 100000 in
set_option maxHeartbeats 2000000 in
theorem toPointerType (d : Nat) (T : Makes 16 d) (t : Tree) (kv : Value) (w : World) (h : Able w (d + 1) t kv) (x : Tree) (hk : t.kind = kPointerType) (ht : t.text = ByteArray.empty) (hn : t.num = 0) (hl : t.kids = [x]) (hx : x.kind ≠ ByteArray.empty) :
    Calls Tryz.prog 16 #[.agg #[.string t.kind, .string t.text, .int .i64 t.num, kv]] w (Made w (d + 1) t) := by
  obtain ⟨a, c, rfl⟩ := h.kids.form
  have HA := Lib.hid h
  have B := Lib.hid (below1 w (.cells #[.string t.kind, .string t.text, .int .i64 t.num, .slice a t.kids.length c] 24))
  have BD : Hid (Below w.heap.size w (w.alloc (.cells #[.string t.kind, .string t.text, .int .i64 t.num, .slice a t.kids.length c] 24)).drew) := (below1 w (.cells #[.string t.kind, .string t.text, .int .i64 t.num, .slice a t.kids.length c] 24)).drew
  have HT := Lib.hid T
  have k0 := kind_ne (a := t.kind) kName (by rw [hk]; decide) (l := [78, 97, 109, 101]) rfl
  have k1 := kind_ne (a := t.kind) kBuiltinType (by rw [hk]; decide) (l := [66, 117, 105, 108, 116, 105, 110, 84, 121, 112, 101]) rfl
  have k2 := kind_ne (a := t.kind) kOperator (by rw [hk]; decide) (l := [79, 112, 101, 114, 97, 116, 111, 114]) rfl
  have k3 := kind_ne (a := t.kind) kConstructor (by rw [hk]; decide) (l := [67, 111, 110, 115, 116, 114, 117, 99, 116, 111, 114]) rfl
  have k4 := kind_ne (a := t.kind) kDestructor (by rw [hk]; decide) (l := [68, 101, 115, 116, 114, 117, 99, 116, 111, 114]) rfl
  have k5 := kind_ne (a := t.kind) kQualified (by rw [hk]; decide) (l := [81, 117, 97, 108, 105, 102, 105, 101, 100]) rfl
  have k6 := kind_ne (a := t.kind) kTemplate (by rw [hk]; decide) (l := [84, 101, 109, 112, 108, 97, 116, 101]) rfl
  have k7 := kind_ne (a := t.kind) kTyped (by rw [hk]; decide) (l := [84, 121, 112, 101, 100]) rfl
  have k8 := kind_ne (a := t.kind) kFunctionType (by rw [hk]; decide) (l := [70, 117, 110, 99, 116, 105, 111, 110, 84, 121, 112, 101]) rfl
  have k9 := kind_is (a := t.kind) kPointerType hk (l := [80, 111, 105, 110, 116, 101, 114, 84, 121, 112, 101]) rfl
  have E := Lib.hid hk
  have HN := Lib.hid hn
  have HTX := Lib.hid ht
  have HL := Lib.hid hl
  have HX := Lib.hid hx
  clear h T hk hn hl ht hx
  go_enter Tryz.func16, Tryz.ntmps16
  go_wp2_with fail
  refine (kidC d HT.out t x _ 0 _ (HA.out.below B.out) (by rw [HL.out]; rfl)).mono ?_
  rintro e w1 ⟨u, rfl, hu, hb1⟩
  obtain ⟨pu, bu, rfl, _⟩ := hu.ptr HX.out
  have U := Lib.hid (hu.wide B.out.size)
  have B1 := Lib.hid (B.out.trans (hb1.mono B.out.size))
  clear hu hb1
  go_wp2_with fail
  go_ret
  exact made_new (by simp) B1.out (.inr (.inr (.inr (.inl ⟨_, x, _, by rw [E.out]; exact .tail _ (.tail _ (.head _)), HTX.out, HN.out, HL.out, HX.out, U.out.put _, rfl⟩))))

set_option maxRecDepth 100000 in
set_option maxHeartbeats 2000000 in
theorem toReferenceType (d : Nat) (T : Makes 16 d) (t : Tree) (kv : Value) (w : World) (h : Able w (d + 1) t kv) (x : Tree) (hk : t.kind = kReferenceType) (ht : t.text = ByteArray.empty) (hn : t.num = 0) (hl : t.kids = [x]) (hx : x.kind ≠ ByteArray.empty) :
    Calls Tryz.prog 16 #[.agg #[.string t.kind, .string t.text, .int .i64 t.num, kv]] w (Made w (d + 1) t) := by
  obtain ⟨a, c, rfl⟩ := h.kids.form
  have HA := Lib.hid h
  have B := Lib.hid (below1 w (.cells #[.string t.kind, .string t.text, .int .i64 t.num, .slice a t.kids.length c] 24))
  have BD : Hid (Below w.heap.size w (w.alloc (.cells #[.string t.kind, .string t.text, .int .i64 t.num, .slice a t.kids.length c] 24)).drew) := (below1 w (.cells #[.string t.kind, .string t.text, .int .i64 t.num, .slice a t.kids.length c] 24)).drew
  have HT := Lib.hid T
  have k0 := kind_ne (a := t.kind) kName (by rw [hk]; decide) (l := [78, 97, 109, 101]) rfl
  have k1 := kind_ne (a := t.kind) kBuiltinType (by rw [hk]; decide) (l := [66, 117, 105, 108, 116, 105, 110, 84, 121, 112, 101]) rfl
  have k2 := kind_ne (a := t.kind) kOperator (by rw [hk]; decide) (l := [79, 112, 101, 114, 97, 116, 111, 114]) rfl
  have k3 := kind_ne (a := t.kind) kConstructor (by rw [hk]; decide) (l := [67, 111, 110, 115, 116, 114, 117, 99, 116, 111, 114]) rfl
  have k4 := kind_ne (a := t.kind) kDestructor (by rw [hk]; decide) (l := [68, 101, 115, 116, 114, 117, 99, 116, 111, 114]) rfl
  have k5 := kind_ne (a := t.kind) kQualified (by rw [hk]; decide) (l := [81, 117, 97, 108, 105, 102, 105, 101, 100]) rfl
  have k6 := kind_ne (a := t.kind) kTemplate (by rw [hk]; decide) (l := [84, 101, 109, 112, 108, 97, 116, 101]) rfl
  have k7 := kind_ne (a := t.kind) kTyped (by rw [hk]; decide) (l := [84, 121, 112, 101, 100]) rfl
  have k8 := kind_ne (a := t.kind) kFunctionType (by rw [hk]; decide) (l := [70, 117, 110, 99, 116, 105, 111, 110, 84, 121, 112, 101]) rfl
  have k9 := kind_ne (a := t.kind) kPointerType (by rw [hk]; decide) (l := [80, 111, 105, 110, 116, 101, 114, 84, 121, 112, 101]) rfl
  have k10 := kind_is (a := t.kind) kReferenceType hk (l := [82, 101, 102, 101, 114, 101, 110, 99, 101, 84, 121, 112, 101]) rfl
  have E := Lib.hid hk
  have HN := Lib.hid hn
  have HTX := Lib.hid ht
  have HL := Lib.hid hl
  have HX := Lib.hid hx
  clear h T hk hn hl ht hx
  go_enter Tryz.func16, Tryz.ntmps16
  go_wp2_with fail
  refine (kidC d HT.out t x _ 0 _ (HA.out.below B.out) (by rw [HL.out]; rfl)).mono ?_
  rintro e w1 ⟨u, rfl, hu, hb1⟩
  obtain ⟨pu, bu, rfl, _⟩ := hu.ptr HX.out
  have U := Lib.hid (hu.wide B.out.size)
  have B1 := Lib.hid (B.out.trans (hb1.mono B.out.size))
  clear hu hb1
  go_wp2_with fail
  go_ret
  exact made_new (by simp) B1.out (.inr (.inr (.inr (.inl ⟨_, x, _, by rw [E.out]; exact .tail _ (.tail _ (.tail _ (.head _))), HTX.out, HN.out, HL.out, HX.out, U.out.put _, rfl⟩))))

set_option maxRecDepth 100000 in
set_option maxHeartbeats 2000000 in
theorem toRvalueReferenceType (d : Nat) (T : Makes 16 d) (t : Tree) (kv : Value) (w : World) (h : Able w (d + 1) t kv) (x : Tree) (hk : t.kind = kRvalueReferenceType) (ht : t.text = ByteArray.empty) (hn : t.num = 0) (hl : t.kids = [x]) (hx : x.kind ≠ ByteArray.empty) :
    Calls Tryz.prog 16 #[.agg #[.string t.kind, .string t.text, .int .i64 t.num, kv]] w (Made w (d + 1) t) := by
  obtain ⟨a, c, rfl⟩ := h.kids.form
  have HA := Lib.hid h
  have B := Lib.hid (below1 w (.cells #[.string t.kind, .string t.text, .int .i64 t.num, .slice a t.kids.length c] 24))
  have BD : Hid (Below w.heap.size w (w.alloc (.cells #[.string t.kind, .string t.text, .int .i64 t.num, .slice a t.kids.length c] 24)).drew) := (below1 w (.cells #[.string t.kind, .string t.text, .int .i64 t.num, .slice a t.kids.length c] 24)).drew
  have HT := Lib.hid T
  have k0 := kind_ne (a := t.kind) kName (by rw [hk]; decide) (l := [78, 97, 109, 101]) rfl
  have k1 := kind_ne (a := t.kind) kBuiltinType (by rw [hk]; decide) (l := [66, 117, 105, 108, 116, 105, 110, 84, 121, 112, 101]) rfl
  have k2 := kind_ne (a := t.kind) kOperator (by rw [hk]; decide) (l := [79, 112, 101, 114, 97, 116, 111, 114]) rfl
  have k3 := kind_ne (a := t.kind) kConstructor (by rw [hk]; decide) (l := [67, 111, 110, 115, 116, 114, 117, 99, 116, 111, 114]) rfl
  have k4 := kind_ne (a := t.kind) kDestructor (by rw [hk]; decide) (l := [68, 101, 115, 116, 114, 117, 99, 116, 111, 114]) rfl
  have k5 := kind_ne (a := t.kind) kQualified (by rw [hk]; decide) (l := [81, 117, 97, 108, 105, 102, 105, 101, 100]) rfl
  have k6 := kind_ne (a := t.kind) kTemplate (by rw [hk]; decide) (l := [84, 101, 109, 112, 108, 97, 116, 101]) rfl
  have k7 := kind_ne (a := t.kind) kTyped (by rw [hk]; decide) (l := [84, 121, 112, 101, 100]) rfl
  have k8 := kind_ne (a := t.kind) kFunctionType (by rw [hk]; decide) (l := [70, 117, 110, 99, 116, 105, 111, 110, 84, 121, 112, 101]) rfl
  have k9 := kind_ne (a := t.kind) kPointerType (by rw [hk]; decide) (l := [80, 111, 105, 110, 116, 101, 114, 84, 121, 112, 101]) rfl
  have k10 := kind_ne (a := t.kind) kReferenceType (by rw [hk]; decide) (l := [82, 101, 102, 101, 114, 101, 110, 99, 101, 84, 121, 112, 101]) rfl
  have k11 := kind_is (a := t.kind) kRvalueReferenceType hk (l := [82, 118, 97, 108, 117, 101, 82, 101, 102, 101, 114, 101, 110, 99, 101, 84, 121, 112, 101]) rfl
  have E := Lib.hid hk
  have HN := Lib.hid hn
  have HTX := Lib.hid ht
  have HL := Lib.hid hl
  have HX := Lib.hid hx
  clear h T hk hn hl ht hx
  go_enter Tryz.func16, Tryz.ntmps16
  go_wp2_with fail
  refine (kidC d HT.out t x _ 0 _ (HA.out.below B.out) (by rw [HL.out]; rfl)).mono ?_
  rintro e w1 ⟨u, rfl, hu, hb1⟩
  obtain ⟨pu, bu, rfl, _⟩ := hu.ptr HX.out
  have U := Lib.hid (hu.wide B.out.size)
  have B1 := Lib.hid (B.out.trans (hb1.mono B.out.size))
  clear hu hb1
  go_wp2_with fail
  go_ret
  exact made_new (by simp) B1.out (.inr (.inr (.inr (.inl ⟨_, x, _, by rw [E.out]; exact .tail _ (.tail _ (.tail _ (.tail _ (.head _)))), HTX.out, HN.out, HL.out, HX.out, U.out.put _, rfl⟩))))

set_option maxRecDepth 100000 in
set_option maxHeartbeats 2000000 in
theorem toComplexType (d : Nat) (T : Makes 16 d) (t : Tree) (kv : Value) (w : World) (h : Able w (d + 1) t kv) (x : Tree) (hk : t.kind = kComplexType) (ht : t.text = ByteArray.empty) (hn : t.num = 0) (hl : t.kids = [x]) (hx : x.kind ≠ ByteArray.empty) :
    Calls Tryz.prog 16 #[.agg #[.string t.kind, .string t.text, .int .i64 t.num, kv]] w (Made w (d + 1) t) := by
  obtain ⟨a, c, rfl⟩ := h.kids.form
  have HA := Lib.hid h
  have B := Lib.hid (below1 w (.cells #[.string t.kind, .string t.text, .int .i64 t.num, .slice a t.kids.length c] 24))
  have BD : Hid (Below w.heap.size w (w.alloc (.cells #[.string t.kind, .string t.text, .int .i64 t.num, .slice a t.kids.length c] 24)).drew) := (below1 w (.cells #[.string t.kind, .string t.text, .int .i64 t.num, .slice a t.kids.length c] 24)).drew
  have HT := Lib.hid T
  have k0 := kind_ne (a := t.kind) kName (by rw [hk]; decide) (l := [78, 97, 109, 101]) rfl
  have k1 := kind_ne (a := t.kind) kBuiltinType (by rw [hk]; decide) (l := [66, 117, 105, 108, 116, 105, 110, 84, 121, 112, 101]) rfl
  have k2 := kind_ne (a := t.kind) kOperator (by rw [hk]; decide) (l := [79, 112, 101, 114, 97, 116, 111, 114]) rfl
  have k3 := kind_ne (a := t.kind) kConstructor (by rw [hk]; decide) (l := [67, 111, 110, 115, 116, 114, 117, 99, 116, 111, 114]) rfl
  have k4 := kind_ne (a := t.kind) kDestructor (by rw [hk]; decide) (l := [68, 101, 115, 116, 114, 117, 99, 116, 111, 114]) rfl
  have k5 := kind_ne (a := t.kind) kQualified (by rw [hk]; decide) (l := [81, 117, 97, 108, 105, 102, 105, 101, 100]) rfl
  have k6 := kind_ne (a := t.kind) kTemplate (by rw [hk]; decide) (l := [84, 101, 109, 112, 108, 97, 116, 101]) rfl
  have k7 := kind_ne (a := t.kind) kTyped (by rw [hk]; decide) (l := [84, 121, 112, 101, 100]) rfl
  have k8 := kind_ne (a := t.kind) kFunctionType (by rw [hk]; decide) (l := [70, 117, 110, 99, 116, 105, 111, 110, 84, 121, 112, 101]) rfl
  have k9 := kind_ne (a := t.kind) kPointerType (by rw [hk]; decide) (l := [80, 111, 105, 110, 116, 101, 114, 84, 121, 112, 101]) rfl
  have k10 := kind_ne (a := t.kind) kReferenceType (by rw [hk]; decide) (l := [82, 101, 102, 101, 114, 101, 110, 99, 101, 84, 121, 112, 101]) rfl
  have k11 := kind_ne (a := t.kind) kRvalueReferenceType (by rw [hk]; decide) (l := [82, 118, 97, 108, 117, 101, 82, 101, 102, 101, 114, 101, 110, 99, 101, 84, 121, 112, 101]) rfl
  have k12 := kind_is (a := t.kind) kComplexType hk (l := [67, 111, 109, 112, 108, 101, 120, 84, 121, 112, 101]) rfl
  have E := Lib.hid hk
  have HN := Lib.hid hn
  have HTX := Lib.hid ht
  have HL := Lib.hid hl
  have HX := Lib.hid hx
  clear h T hk hn hl ht hx
  go_enter Tryz.func16, Tryz.ntmps16
  go_wp2_with fail
  refine (kidC d HT.out t x _ 0 _ (HA.out.below B.out) (by rw [HL.out]; rfl)).mono ?_
  rintro e w1 ⟨u, rfl, hu, hb1⟩
  obtain ⟨pu, bu, rfl, _⟩ := hu.ptr HX.out
  have U := Lib.hid (hu.wide B.out.size)
  have B1 := Lib.hid (B.out.trans (hb1.mono B.out.size))
  clear hu hb1
  go_wp2_with fail
  go_ret
  exact made_new (by simp) B1.out (.inr (.inr (.inr (.inl ⟨_, x, _, by rw [E.out]; exact .tail _ (.tail _ (.tail _ (.tail _ (.tail _ (.head _))))), HTX.out, HN.out, HL.out, HX.out, U.out.put _, rfl⟩))))

set_option maxRecDepth 100000 in
set_option maxHeartbeats 2000000 in
theorem toImaginaryType (d : Nat) (T : Makes 16 d) (t : Tree) (kv : Value) (w : World) (h : Able w (d + 1) t kv) (x : Tree) (hk : t.kind = kImaginaryType) (ht : t.text = ByteArray.empty) (hn : t.num = 0) (hl : t.kids = [x]) (hx : x.kind ≠ ByteArray.empty) :
    Calls Tryz.prog 16 #[.agg #[.string t.kind, .string t.text, .int .i64 t.num, kv]] w (Made w (d + 1) t) := by
  obtain ⟨a, c, rfl⟩ := h.kids.form
  have HA := Lib.hid h
  have B := Lib.hid (below1 w (.cells #[.string t.kind, .string t.text, .int .i64 t.num, .slice a t.kids.length c] 24))
  have BD : Hid (Below w.heap.size w (w.alloc (.cells #[.string t.kind, .string t.text, .int .i64 t.num, .slice a t.kids.length c] 24)).drew) := (below1 w (.cells #[.string t.kind, .string t.text, .int .i64 t.num, .slice a t.kids.length c] 24)).drew
  have HT := Lib.hid T
  have k0 := kind_ne (a := t.kind) kName (by rw [hk]; decide) (l := [78, 97, 109, 101]) rfl
  have k1 := kind_ne (a := t.kind) kBuiltinType (by rw [hk]; decide) (l := [66, 117, 105, 108, 116, 105, 110, 84, 121, 112, 101]) rfl
  have k2 := kind_ne (a := t.kind) kOperator (by rw [hk]; decide) (l := [79, 112, 101, 114, 97, 116, 111, 114]) rfl
  have k3 := kind_ne (a := t.kind) kConstructor (by rw [hk]; decide) (l := [67, 111, 110, 115, 116, 114, 117, 99, 116, 111, 114]) rfl
  have k4 := kind_ne (a := t.kind) kDestructor (by rw [hk]; decide) (l := [68, 101, 115, 116, 114, 117, 99, 116, 111, 114]) rfl
  have k5 := kind_ne (a := t.kind) kQualified (by rw [hk]; decide) (l := [81, 117, 97, 108, 105, 102, 105, 101, 100]) rfl
  have k6 := kind_ne (a := t.kind) kTemplate (by rw [hk]; decide) (l := [84, 101, 109, 112, 108, 97, 116, 101]) rfl
  have k7 := kind_ne (a := t.kind) kTyped (by rw [hk]; decide) (l := [84, 121, 112, 101, 100]) rfl
  have k8 := kind_ne (a := t.kind) kFunctionType (by rw [hk]; decide) (l := [70, 117, 110, 99, 116, 105, 111, 110, 84, 121, 112, 101]) rfl
  have k9 := kind_ne (a := t.kind) kPointerType (by rw [hk]; decide) (l := [80, 111, 105, 110, 116, 101, 114, 84, 121, 112, 101]) rfl
  have k10 := kind_ne (a := t.kind) kReferenceType (by rw [hk]; decide) (l := [82, 101, 102, 101, 114, 101, 110, 99, 101, 84, 121, 112, 101]) rfl
  have k11 := kind_ne (a := t.kind) kRvalueReferenceType (by rw [hk]; decide) (l := [82, 118, 97, 108, 117, 101, 82, 101, 102, 101, 114, 101, 110, 99, 101, 84, 121, 112, 101]) rfl
  have k12 := kind_ne (a := t.kind) kComplexType (by rw [hk]; decide) (l := [67, 111, 109, 112, 108, 101, 120, 84, 121, 112, 101]) rfl
  have k13 := kind_is (a := t.kind) kImaginaryType hk (l := [73, 109, 97, 103, 105, 110, 97, 114, 121, 84, 121, 112, 101]) rfl
  have E := Lib.hid hk
  have HN := Lib.hid hn
  have HTX := Lib.hid ht
  have HL := Lib.hid hl
  have HX := Lib.hid hx
  clear h T hk hn hl ht hx
  go_enter Tryz.func16, Tryz.ntmps16
  go_wp2_with fail
  refine (kidC d HT.out t x _ 0 _ (HA.out.below B.out) (by rw [HL.out]; rfl)).mono ?_
  rintro e w1 ⟨u, rfl, hu, hb1⟩
  obtain ⟨pu, bu, rfl, _⟩ := hu.ptr HX.out
  have U := Lib.hid (hu.wide B.out.size)
  have B1 := Lib.hid (B.out.trans (hb1.mono B.out.size))
  clear hu hb1
  go_wp2_with fail
  go_ret
  exact made_new (by simp) B1.out (.inr (.inr (.inr (.inl ⟨_, x, _, by rw [E.out]; exact .tail _ (.tail _ (.tail _ (.tail _ (.tail _ (.tail _ (.head _)))))), HTX.out, HN.out, HL.out, HX.out, U.out.put _, rfl⟩))))

set_option maxRecDepth 100000 in
set_option maxHeartbeats 2000000 in
theorem toTypeWithQualifiers (d : Nat) (T : Makes 16 d) (t : Tree) (kv : Value) (w : World) (h : Able w (d + 1) t kv) (x y : Tree) (hk : t.kind = kTypeWithQualifiers) (ht : t.text = ByteArray.empty) (hn : t.num = 0) (hl : t.kids = [x, y]) (hx : x.kind ≠ ByteArray.empty) (hy : y.kind ≠ ByteArray.empty) :
    Calls Tryz.prog 16 #[.agg #[.string t.kind, .string t.text, .int .i64 t.num, kv]] w (Made w (d + 1) t) := by
  obtain ⟨a, c, rfl⟩ := h.kids.form
  have HA := Lib.hid h
  have B := Lib.hid (below1 w (.cells #[.string t.kind, .string t.text, .int .i64 t.num, .slice a t.kids.length c] 24))
  have BD : Hid (Below w.heap.size w (w.alloc (.cells #[.string t.kind, .string t.text, .int .i64 t.num, .slice a t.kids.length c] 24)).drew) := (below1 w (.cells #[.string t.kind, .string t.text, .int .i64 t.num, .slice a t.kids.length c] 24)).drew
  have HT := Lib.hid T
  have k0 := kind_ne (a := t.kind) kName (by rw [hk]; decide) (l := [78, 97, 109, 101]) rfl
  have k1 := kind_ne (a := t.kind) kBuiltinType (by rw [hk]; decide) (l := [66, 117, 105, 108, 116, 105, 110, 84, 121, 112, 101]) rfl
  have k2 := kind_ne (a := t.kind) kOperator (by rw [hk]; decide) (l := [79, 112, 101, 114, 97, 116, 111, 114]) rfl
  have k3 := kind_ne (a := t.kind) kConstructor (by rw [hk]; decide) (l := [67, 111, 110, 115, 116, 114, 117, 99, 116, 111, 114]) rfl
  have k4 := kind_ne (a := t.kind) kDestructor (by rw [hk]; decide) (l := [68, 101, 115, 116, 114, 117, 99, 116, 111, 114]) rfl
  have k5 := kind_ne (a := t.kind) kQualified (by rw [hk]; decide) (l := [81, 117, 97, 108, 105, 102, 105, 101, 100]) rfl
  have k6 := kind_ne (a := t.kind) kTemplate (by rw [hk]; decide) (l := [84, 101, 109, 112, 108, 97, 116, 101]) rfl
  have k7 := kind_ne (a := t.kind) kTyped (by rw [hk]; decide) (l := [84, 121, 112, 101, 100]) rfl
  have k8 := kind_ne (a := t.kind) kFunctionType (by rw [hk]; decide) (l := [70, 117, 110, 99, 116, 105, 111, 110, 84, 121, 112, 101]) rfl
  have k9 := kind_ne (a := t.kind) kPointerType (by rw [hk]; decide) (l := [80, 111, 105, 110, 116, 101, 114, 84, 121, 112, 101]) rfl
  have k10 := kind_ne (a := t.kind) kReferenceType (by rw [hk]; decide) (l := [82, 101, 102, 101, 114, 101, 110, 99, 101, 84, 121, 112, 101]) rfl
  have k11 := kind_ne (a := t.kind) kRvalueReferenceType (by rw [hk]; decide) (l := [82, 118, 97, 108, 117, 101, 82, 101, 102, 101, 114, 101, 110, 99, 101, 84, 121, 112, 101]) rfl
  have k12 := kind_ne (a := t.kind) kComplexType (by rw [hk]; decide) (l := [67, 111, 109, 112, 108, 101, 120, 84, 121, 112, 101]) rfl
  have k13 := kind_ne (a := t.kind) kImaginaryType (by rw [hk]; decide) (l := [73, 109, 97, 103, 105, 110, 97, 114, 121, 84, 121, 112, 101]) rfl
  have k14 := kind_is (a := t.kind) kTypeWithQualifiers hk (l := [84, 121, 112, 101, 87, 105, 116, 104, 81, 117, 97, 108, 105, 102, 105, 101, 114, 115]) rfl
  have E := Lib.hid hk
  have HN := Lib.hid hn
  have HTX := Lib.hid ht
  have HL := Lib.hid hl
  have KX := Lib.hid hx
  have KY := Lib.hid hy
  clear h T hk hn hl ht hx hy
  go_enter Tryz.func16, Tryz.ntmps16
  go_wp2_with fail
  refine wp_region_tab 7 (TabK d x y [] (w.alloc (.cells #[.string t.kind, .string t.text, .int .i64 t.num, .slice a t.kids.length c] 24)).drew) (TabK.stable d x y [] _) (by kernel_rfl) (by kernel_rfl) ?_
  simp only [List.take_succ_cons, List.take_zero, List.drop_succ_cons, List.drop_zero]
  refine tab_value ?u1 ?g1 ?h1 ?_
  case g1 => kernel_rfl
  case h1 => (intro w' hw'; obtain ⟨hc', hf'⟩ := bcell hw'; go_simp; try with_reducible rfl)
  refine tab_call 33 ?a2 ?g2 ?h2 ?c2 ?_
  case g2 => kernel_rfl
  case h2 => (intro w' hw'; obtain ⟨hc', hf'⟩ := bcell hw'; go_simp; try with_reducible rfl)
  case c2 => (intro w' hw'; have W0 := Below.size hw'; refine (kidC d HT.out t x _ 0 w' (HA.out.below (BD.out.trans (Below.mono hw' BD.out.size))) (by rw [HL.out]; rfl)).mono ?_; rintro e w'' ⟨v, rfl, hv, hb⟩; exact ⟨v, ⟨fun _ _ => hv.wide W0, fun _ e => absurd e (by simp), fun e => absurd e (by decide)⟩, rfl, hb⟩)
  rintro v1 w1 he1 ⟨hv1, _, _⟩
  have V1 := hv1 rfl rfl
  obtain ⟨p1, b1, rfl, _⟩ := V1.ptr KX.out
  have A1_1 := Lib.hid V1
  have E1 := Lib.hid he1
  clear hv1 V1 he1
  refine tab_value ?u3 ?g3 ?h3 ?_
  case g3 => kernel_rfl
  case h3 => (intro w' hw'; obtain ⟨hc', hf'⟩ := bcell hw'; go_simp; try with_reducible rfl)
  refine tab_call 33 ?a4 ?g4 ?h4 ?c4 ?_
  case g4 => kernel_rfl
  case h4 => (intro w' hw'; obtain ⟨hc', hf'⟩ := bcell hw'; go_simp; try with_reducible rfl)
  case c4 => (intro w' hw'; have W0 := Below.size hw'; refine (kidC d HT.out t y _ 1 w' (HA.out.below (BD.out.trans (Below.mono hw' BD.out.size))) (by rw [HL.out]; rfl)).mono ?_; rintro e w'' ⟨v, rfl, hv, hb⟩; exact ⟨v, ⟨fun _ e => absurd e (by simp), fun _ _ => hv.wide W0, fun e => absurd e (by decide)⟩, rfl, hb⟩)
  rintro v2 w2 he2 ⟨_, hv2, _⟩
  have V2 := hv2 rfl rfl
  obtain ⟨p2, b2, rfl, _⟩ := V2.ptr KY.out
  have A2_2 := Lib.hid V2
  have E2 := Lib.hid (Ext.trans E1.out he2)
  have A1_2 := Lib.hid (A1_1.out.later he2)
  clear hv2 V2 he2
  refine tab_value ?u5 ?g5 ?h5 ?_
  case g5 => kernel_rfl
  case h5 => (intro w' hw'; obtain ⟨hc', hf'⟩ := bcell hw'; go_simp; try with_reducible rfl)
  refine tab_box ?o6 ?g6 ?h6 ?_
  case g6 => kernel_rfl
  case h6 => (intro w' hw'; obtain ⟨hc', hf'⟩ := bcell hw'; go_simp; try with_reducible rfl)
  intro bz wz hez hlz hsz hbz
  have EZ := Lib.hid (Ext.trans E2.out hez)
  have A1_z := Lib.hid (A1_2.out.later hez)
  have A2_z := Lib.hid (A2_2.out.later hez)
  have NZ : Hid (New w wz bz) := ⟨Nat.le_trans BD.out.size hlz, hsz⟩
  have HZ := Lib.hid hbz
  clear hez hlz hsz hbz
  refine tab_value ?u7 ?g7 ?h7 ?_
  case g7 => kernel_rfl
  case h7 => (intro w' hw'; obtain ⟨hc', hf'⟩ := bcell hw'; go_simp; try with_reducible rfl)
  refine wpTab_nil (fun wy hey => ?_)
  have EY := Lib.hid (Ext.trans EZ.out hey)
  have A1 := Lib.hid ((A1_z.out.later hey).wide BD.out.size)
  have A2 := Lib.hid ((A2_z.out.later hey).wide BD.out.size)
  have HY := Lib.hid ((hey.block bz NZ.out.2).trans HZ.out)
  have NY := Lib.hid (NZ.out.wide (w0 := w) (Nat.le_refl _) hey.size)
  have BY := Lib.hid (BD.out.trans (Below.mono EY.out BD.out.size))
  clear hey
  go_wp2_with fail
  go_ret
  exact ⟨_, rfl, ast_new NY.out HY.out (.inr (.inr (.inr (.inr (.inr (.inl ⟨_, x, y, _, _, by rw [E.out]; exact .tail _ (.tail _ (.head _)), HTX.out, HN.out, HL.out, KX.out, KY.out, A1.out, A2.out, rfl⟩)))))), BY.out⟩

set_option maxRecDepth 100000 in
set_option maxHeartbeats 2000000 in
theorem toQualifiers (d : Nat) (T : Makes 16 d) (t : Tree) (kv : Value) (w : World) (h : Able w (d + 1) t kv) (hk : t.kind = kQualifiers) (ht : t.text = ByteArray.empty) (hn : t.num = 0) (hx : ∀ x ∈ t.kids, x.kind ≠ ByteArray.empty) :
    Calls Tryz.prog 16 #[.agg #[.string t.kind, .string t.text, .int .i64 t.num, kv]] w (Made w (d + 1) t) := by
  obtain ⟨a, c, rfl⟩ := h.kids.form
  have HA := Lib.hid h
  have B := Lib.hid (below1 w (.cells #[.string t.kind, .string t.text, .int .i64 t.num, .slice a t.kids.length c] 24))
  have BD : Hid (Below w.heap.size w (w.alloc (.cells #[.string t.kind, .string t.text, .int .i64 t.num, .slice a t.kids.length c] 24)).drew) := (below1 w (.cells #[.string t.kind, .string t.text, .int .i64 t.num, .slice a t.kids.length c] 24)).drew
  have HT := Lib.hid T
  have k0 := kind_ne (a := t.kind) kName (by rw [hk]; decide) (l := [78, 97, 109, 101]) rfl
  have k1 := kind_ne (a := t.kind) kBuiltinType (by rw [hk]; decide) (l := [66, 117, 105, 108, 116, 105, 110, 84, 121, 112, 101]) rfl
  have k2 := kind_ne (a := t.kind) kOperator (by rw [hk]; decide) (l := [79, 112, 101, 114, 97, 116, 111, 114]) rfl
  have k3 := kind_ne (a := t.kind) kConstructor (by rw [hk]; decide) (l := [67, 111, 110, 115, 116, 114, 117, 99, 116, 111, 114]) rfl
  have k4 := kind_ne (a := t.kind) kDestructor (by rw [hk]; decide) (l := [68, 101, 115, 116, 114, 117, 99, 116, 111, 114]) rfl
  have k5 := kind_ne (a := t.kind) kQualified (by rw [hk]; decide) (l := [81, 117, 97, 108, 105, 102, 105, 101, 100]) rfl
  have k6 := kind_ne (a := t.kind) kTemplate (by rw [hk]; decide) (l := [84, 101, 109, 112, 108, 97, 116, 101]) rfl
  have k7 := kind_ne (a := t.kind) kTyped (by rw [hk]; decide) (l := [84, 121, 112, 101, 100]) rfl
  have k8 := kind_ne (a := t.kind) kFunctionType (by rw [hk]; decide) (l := [70, 117, 110, 99, 116, 105, 111, 110, 84, 121, 112, 101]) rfl
  have k9 := kind_ne (a := t.kind) kPointerType (by rw [hk]; decide) (l := [80, 111, 105, 110, 116, 101, 114, 84, 121, 112, 101]) rfl
  have k10 := kind_ne (a := t.kind) kReferenceType (by rw [hk]; decide) (l := [82, 101, 102, 101, 114, 101, 110, 99, 101, 84, 121, 112, 101]) rfl
  have k11 := kind_ne (a := t.kind) kRvalueReferenceType (by rw [hk]; decide) (l := [82, 118, 97, 108, 117, 101, 82, 101, 102, 101, 114, 101, 110, 99, 101, 84, 121, 112, 101]) rfl
  have k12 := kind_ne (a := t.kind) kComplexType (by rw [hk]; decide) (l := [67, 111, 109, 112, 108, 101, 120, 84, 121, 112, 101]) rfl
  have k13 := kind_ne (a := t.kind) kImaginaryType (by rw [hk]; decide) (l := [73, 109, 97, 103, 105, 110, 97, 114, 121, 84, 121, 112, 101]) rfl
  have k14 := kind_ne (a := t.kind) kTypeWithQualifiers (by rw [hk]; decide) (l := [84, 121, 112, 101, 87, 105, 116, 104, 81, 117, 97, 108, 105, 102, 105, 101, 114, 115]) rfl
  have k15 := kind_is (a := t.kind) kQualifiers hk (l := [81, 117, 97, 108, 105, 102, 105, 101, 114, 115]) rfl
  have E := Lib.hid hk
  have HN := Lib.hid hn
  have HTX := Lib.hid ht
  have HX := Lib.hid hx
  clear h T hk hn ht hx
  go_enter Tryz.func16, Tryz.ntmps16
  go_wp2_with fail
  refine (kidsC d HT.out t _ 0 _ (HA.out.below B.out) (Nat.zero_le _) (fun i x _ hi => HX.out x (List.mem_of_getElem? hi))).mono ?_
  rintro e w1 ⟨u, rfl, hu, hb1⟩
  obtain ⟨ua, uc, rfl⟩ := hu.form
  have U := Lib.hid (hu.wide B.out.size)
  have B1 := Lib.hid (B.out.trans (hb1.mono B.out.size))
  clear hu hb1
  go_wp2_with fail
  go_ret
  exact made_new (by simp) B1.out (.inr (.inr (.inr (.inr (.inr (.inr (.inr (.inl ⟨_, by rw [E.out]; exact .head _, HTX.out, HN.out, HX.out, U.out.later (below1 w1 _), rfl⟩))))))))

set_option maxRecDepth 100000 in
set_option maxHeartbeats 2000000 in
theorem toQualifier (d : Nat) (T : Makes 16 d) (t : Tree) (kv : Value) (w : World) (h : Able w (d + 1) t kv) (hk : t.kind = kQualifier) (hn : t.num = 0) (hl : t.kids = []) :
    Calls Tryz.prog 16 #[.agg #[.string t.kind, .string t.text, .int .i64 t.num, kv]] w (Made w (d + 1) t) := by
  obtain ⟨a, c, rfl⟩ := h.kids.form
  have HA := Lib.hid h
  have B := Lib.hid (below1 w (.cells #[.string t.kind, .string t.text, .int .i64 t.num, .slice a t.kids.length c] 24))
  have BD : Hid (Below w.heap.size w (w.alloc (.cells #[.string t.kind, .string t.text, .int .i64 t.num, .slice a t.kids.length c] 24)).drew) := (below1 w (.cells #[.string t.kind, .string t.text, .int .i64 t.num, .slice a t.kids.length c] 24)).drew
  have HT := Lib.hid T
  have k0 := kind_ne (a := t.kind) kName (by rw [hk]; decide) (l := [78, 97, 109, 101]) rfl
  have k1 := kind_ne (a := t.kind) kBuiltinType (by rw [hk]; decide) (l := [66, 117, 105, 108, 116, 105, 110, 84, 121, 112, 101]) rfl
  have k2 := kind_ne (a := t.kind) kOperator (by rw [hk]; decide) (l := [79, 112, 101, 114, 97, 116, 111, 114]) rfl
  have k3 := kind_ne (a := t.kind) kConstructor (by rw [hk]; decide) (l := [67, 111, 110, 115, 116, 114, 117, 99, 116, 111, 114]) rfl
  have k4 := kind_ne (a := t.kind) kDestructor (by rw [hk]; decide) (l := [68, 101, 115, 116, 114, 117, 99, 116, 111, 114]) rfl
  have k5 := kind_ne (a := t.kind) kQualified (by rw [hk]; decide) (l := [81, 117, 97, 108, 105, 102, 105, 101, 100]) rfl
  have k6 := kind_ne (a := t.kind) kTemplate (by rw [hk]; decide) (l := [84, 101, 109, 112, 108, 97, 116, 101]) rfl
  have k7 := kind_ne (a := t.kind) kTyped (by rw [hk]; decide) (l := [84, 121, 112, 101, 100]) rfl
  have k8 := kind_ne (a := t.kind) kFunctionType (by rw [hk]; decide) (l := [70, 117, 110, 99, 116, 105, 111, 110, 84, 121, 112, 101]) rfl
  have k9 := kind_ne (a := t.kind) kPointerType (by rw [hk]; decide) (l := [80, 111, 105, 110, 116, 101, 114, 84, 121, 112, 101]) rfl
  have k10 := kind_ne (a := t.kind) kReferenceType (by rw [hk]; decide) (l := [82, 101, 102, 101, 114, 101, 110, 99, 101, 84, 121, 112, 101]) rfl
  have k11 := kind_ne (a := t.kind) kRvalueReferenceType (by rw [hk]; decide) (l := [82, 118, 97, 108, 117, 101, 82, 101, 102, 101, 114, 101, 110, 99, 101, 84, 121, 112, 101]) rfl
  have k12 := kind_ne (a := t.kind) kComplexType (by rw [hk]; decide) (l := [67, 111, 109, 112, 108, 101, 120, 84, 121, 112, 101]) rfl
  have k13 := kind_ne (a := t.kind) kImaginaryType (by rw [hk]; decide) (l := [73, 109, 97, 103, 105, 110, 97, 114, 121, 84, 121, 112, 101]) rfl
  have k14 := kind_ne (a := t.kind) kTypeWithQualifiers (by rw [hk]; decide) (l := [84, 121, 112, 101, 87, 105, 116, 104, 81, 117, 97, 108, 105, 102, 105, 101, 114, 115]) rfl
  have k15 := kind_ne (a := t.kind) kQualifiers (by rw [hk]; decide) (l := [81, 117, 97, 108, 105, 102, 105, 101, 114, 115]) rfl
  have k16 := kind_is (a := t.kind) kQualifier hk (l := [81, 117, 97, 108, 105, 102, 105, 101, 114]) rfl
  have E := Lib.hid hk
  have HN := Lib.hid hn
  have HL := Lib.hid hl
  clear h T hk hn hl
  go_enter Tryz.func16, Tryz.ntmps16
  go_wp2_with fail
  refine wp_region_tab 7 (TabK d t t (t.kids.drop 0) (w.alloc (.cells #[.string t.kind, .string t.text, .int .i64 t.num, .slice a t.kids.length c] 24)).drew) (TabK.stable d t t (t.kids.drop 0) _) (by kernel_rfl) (by kernel_rfl) ?_
  simp only [List.take_succ_cons, List.take_zero, List.drop_succ_cons, List.drop_zero]
  refine tab_value ?u1 ?g1 ?h1 ?_
  case g1 => kernel_rfl
  case h1 => (intro w' hw'; obtain ⟨hc', hf'⟩ := bcell hw'; go_simp; try with_reducible rfl)
  refine tab_value ?u2 ?g2 ?h2 ?_
  case g2 => kernel_rfl
  case h2 => (intro w' hw'; obtain ⟨hc', hf'⟩ := bcell hw'; go_simp; try with_reducible rfl)
  refine tab_value ?u3 ?g3 ?h3 ?_
  case g3 => kernel_rfl
  case h3 => (intro w' hw'; obtain ⟨hc', hf'⟩ := bcell hw'; go_simp; try with_reducible rfl)
  refine tab_call 34 ?a4 ?g4 ?h4 ?c4 ?_
  case g4 => kernel_rfl
  case h4 => (intro w' hw'; obtain ⟨hc', hf'⟩ := bcell hw'; go_simp; try with_reducible rfl)
  case c4 => (intro w' hw'; have W0 := Below.size hw'; refine (kidsC d HT.out t _ 0 w' (HA.out.below (BD.out.trans (Below.mono hw' BD.out.size))) (Nat.zero_le _) (fun i z hi hz => by rw [HL.out] at hz; simp at hz)).mono ?_; rintro e w'' ⟨v, rfl, hv, hb⟩; exact ⟨v, ⟨fun e => absurd e (by decide), fun e => absurd e (by decide), fun _ => hv.wide W0⟩, rfl, hb⟩)
  rintro v1 w1 he1 ⟨_, _, hv1⟩
  have V1 := hv1 rfl
  obtain ⟨a1, c1, rfl⟩ := V1.form
  have A1_1 := Lib.hid V1
  have E1 := Lib.hid he1
  clear hv1 V1 he1
  refine tab_value ?u5 ?g5 ?h5 ?_
  case g5 => kernel_rfl
  case h5 => (intro w' hw'; obtain ⟨hc', hf'⟩ := bcell hw'; go_simp; try with_reducible rfl)
  refine tab_box ?o6 ?g6 ?h6 ?_
  case g6 => kernel_rfl
  case h6 => (intro w' hw'; obtain ⟨hc', hf'⟩ := bcell hw'; go_simp; try with_reducible rfl)
  intro bz wz hez hlz hsz hbz
  have EZ := Lib.hid (Ext.trans E1.out hez)
  have A1_z := Lib.hid (A1_1.out.later hez)
  have NZ : Hid (New w wz bz) := ⟨Nat.le_trans BD.out.size hlz, hsz⟩
  have HZ := Lib.hid hbz
  clear hez hlz hsz hbz
  refine tab_value ?u7 ?g7 ?h7 ?_
  case g7 => kernel_rfl
  case h7 => (intro w' hw'; obtain ⟨hc', hf'⟩ := bcell hw'; go_simp; try with_reducible rfl)
  refine wpTab_nil (fun wy hey => ?_)
  have EY := Lib.hid (Ext.trans EZ.out hey)
  have A1 := Lib.hid ((A1_z.out.later hey).wide BD.out.size)
  have HY := Lib.hid ((hey.block bz NZ.out.2).trans HZ.out)
  have NY := Lib.hid (NZ.out.wide (w0 := w) (Nat.le_refl _) hey.size)
  have BY := Lib.hid (BD.out.trans (Below.mono EY.out BD.out.size))
  clear hey
  go_wp2_with fail
  go_ret
  exact ⟨_, rfl, ast_new NY.out HY.out (.inr (.inr (.inl ⟨E.out, rfl, HN.out, HL.out, _, rfl, HL.out ▸ A1.out⟩))), BY.out⟩

set_option maxRecDepth 100000 in
set_option maxHeartbeats 2000000 in
theorem toMethodWithQualifiers (d : Nat) (T : Makes 16 d) (t : Tree) (kv : Value) (w : World) (h : Able w (d + 1) t kv) (x y : Tree) (hk : t.kind = kMethodWithQualifiers) (hn : t.num = 0) (hl : t.kids = [x, y]) (hx : x.kind ≠ ByteArray.empty) :
    Calls Tryz.prog 16 #[.agg #[.string t.kind, .string t.text, .int .i64 t.num, kv]] w (Made w (d + 1) t) := by
  obtain ⟨a, c, rfl⟩ := h.kids.form
  have HA := Lib.hid h
  have B := Lib.hid (below1 w (.cells #[.string t.kind, .string t.text, .int .i64 t.num, .slice a t.kids.length c] 24))
  have BD : Hid (Below w.heap.size w (w.alloc (.cells #[.string t.kind, .string t.text, .int .i64 t.num, .slice a t.kids.length c] 24)).drew) := (below1 w (.cells #[.string t.kind, .string t.text, .int .i64 t.num, .slice a t.kids.length c] 24)).drew
  have HT := Lib.hid T
  have k0 := kind_ne (a := t.kind) kName (by rw [hk]; decide) (l := [78, 97, 109, 101]) rfl
  have k1 := kind_ne (a := t.kind) kBuiltinType (by rw [hk]; decide) (l := [66, 117, 105, 108, 116, 105, 110, 84, 121, 112, 101]) rfl
  have k2 := kind_ne (a := t.kind) kOperator (by rw [hk]; decide) (l := [79, 112, 101, 114, 97, 116, 111, 114]) rfl
  have k3 := kind_ne (a := t.kind) kConstructor (by rw [hk]; decide) (l := [67, 111, 110, 115, 116, 114, 117, 99, 116, 111, 114]) rfl
  have k4 := kind_ne (a := t.kind) kDestructor (by rw [hk]; decide) (l := [68, 101, 115, 116, 114, 117, 99, 116, 111, 114]) rfl
  have k5 := kind_ne (a := t.kind) kQualified (by rw [hk]; decide) (l := [81, 117, 97, 108, 105, 102, 105, 101, 100]) rfl
  have k6 := kind_ne (a := t.kind) kTemplate (by rw [hk]; decide) (l := [84, 101, 109, 112, 108, 97, 116, 101]) rfl
  have k7 := kind_ne (a := t.kind) kTyped (by rw [hk]; decide) (l := [84, 121, 112, 101, 100]) rfl
  have k8 := kind_ne (a := t.kind) kFunctionType (by rw [hk]; decide) (l := [70, 117, 110, 99, 116, 105, 111, 110, 84, 121, 112, 101]) rfl
  have k9 := kind_ne (a := t.kind) kPointerType (by rw [hk]; decide) (l := [80, 111, 105, 110, 116, 101, 114, 84, 121, 112, 101]) rfl
  have k10 := kind_ne (a := t.kind) kReferenceType (by rw [hk]; decide) (l := [82, 101, 102, 101, 114, 101, 110, 99, 101, 84, 121, 112, 101]) rfl
  have k11 := kind_ne (a := t.kind) kRvalueReferenceType (by rw [hk]; decide) (l := [82, 118, 97, 108, 117, 101, 82, 101, 102, 101, 114, 101, 110, 99, 101, 84, 121, 112, 101]) rfl
  have k12 := kind_ne (a := t.kind) kComplexType (by rw [hk]; decide) (l := [67, 111, 109, 112, 108, 101, 120, 84, 121, 112, 101]) rfl
  have k13 := kind_ne (a := t.kind) kImaginaryType (by rw [hk]; decide) (l := [73, 109, 97, 103, 105, 110, 97, 114, 121, 84, 121, 112, 101]) rfl
  have k14 := kind_ne (a := t.kind) kTypeWithQualifiers (by rw [hk]; decide) (l := [84, 121, 112, 101, 87, 105, 116, 104, 81, 117, 97, 108, 105, 102, 105, 101, 114, 115]) rfl
  have k15 := kind_ne (a := t.kind) kQualifiers (by rw [hk]; decide) (l := [81, 117, 97, 108, 105, 102, 105, 101, 114, 115]) rfl
  have k16 := kind_ne (a := t.kind) kQualifier (by rw [hk]; decide) (l := [81, 117, 97, 108, 105, 102, 105, 101, 114]) rfl
  have k17 := kind_is (a := t.kind) kMethodWithQualifiers hk (l := [77, 101, 116, 104, 111, 100, 87, 105, 116, 104, 81, 117, 97, 108, 105, 102, 105, 101, 114, 115]) rfl
  have E := Lib.hid hk
  have HN := Lib.hid hn
  have HL := Lib.hid hl
  have KX := Lib.hid hx
  clear h T hk hn hl hx
  go_enter Tryz.func16, Tryz.ntmps16
  go_wp2_with fail
  refine wp_region_tab 9 (TabK d x y [] (w.alloc (.cells #[.string t.kind, .string t.text, .int .i64 t.num, .slice a t.kids.length c] 24)).drew) (TabK.stable d x y [] _) (by kernel_rfl) (by kernel_rfl) ?_
  simp only [List.take_succ_cons, List.take_zero, List.drop_succ_cons, List.drop_zero]
  refine tab_value ?u1 ?g1 ?h1 ?_
  case g1 => kernel_rfl
  case h1 => (intro w' hw'; obtain ⟨hc', hf'⟩ := bcell hw'; go_simp; try with_reducible rfl)
  refine tab_call 33 ?a2 ?g2 ?h2 ?c2 ?_
  case g2 => kernel_rfl
  case h2 => (intro w' hw'; obtain ⟨hc', hf'⟩ := bcell hw'; go_simp; try with_reducible rfl)
  case c2 => (intro w' hw'; have W0 := Below.size hw'; refine (kidC d HT.out t x _ 0 w' (HA.out.below (BD.out.trans (Below.mono hw' BD.out.size))) (by rw [HL.out]; rfl)).mono ?_; rintro e w'' ⟨v, rfl, hv, hb⟩; exact ⟨v, ⟨fun _ _ => hv.wide W0, fun _ e => absurd e (by simp), fun e => absurd e (by decide)⟩, rfl, hb⟩)
  rintro v1 w1 he1 ⟨hv1, _, _⟩
  have V1 := hv1 rfl rfl
  obtain ⟨p1, b1, rfl, _⟩ := V1.ptr KX.out
  have A1_1 := Lib.hid V1
  have E1 := Lib.hid he1
  clear hv1 V1 he1
  refine tab_value ?u3 ?g3 ?h3 ?_
  case g3 => kernel_rfl
  case h3 => (intro w' hw'; obtain ⟨hc', hf'⟩ := bcell hw'; go_simp; try with_reducible rfl)
  refine tab_call 33 ?a4 ?g4 ?h4 ?c4 ?_
  case g4 => kernel_rfl
  case h4 => (intro w' hw'; obtain ⟨hc', hf'⟩ := bcell hw'; go_simp; try with_reducible rfl)
  case c4 => (intro w' hw'; have W0 := Below.size hw'; refine (kidC d HT.out t y _ 1 w' (HA.out.below (BD.out.trans (Below.mono hw' BD.out.size))) (by rw [HL.out]; rfl)).mono ?_; rintro e w'' ⟨v, rfl, hv, hb⟩; exact ⟨v, ⟨fun _ e => absurd e (by simp), fun _ _ => hv.wide W0, fun e => absurd e (by decide)⟩, rfl, hb⟩)
  rintro v2 w2 he2 ⟨_, hv2, _⟩
  have V2 := hv2 rfl rfl
  have A2_2 := Lib.hid V2
  have E2 := Lib.hid (Ext.trans E1.out he2)
  have A1_2 := Lib.hid (A1_1.out.later he2)
  clear hv2 V2 he2
  rcases A2_2.out.ptr2 with rfl | ⟨p2, b2, rfl⟩
  · skip
    refine tab_value ?u5 ?g5 ?h5 ?_
    case g5 => kernel_rfl
    case h5 => (intro w' hw'; obtain ⟨hc', hf'⟩ := bcell hw'; go_simp; try with_reducible rfl)
    refine tab_value ?u6 ?g6 ?h6 ?_
    case g6 => kernel_rfl
    case h6 => (intro w' hw'; obtain ⟨hc', hf'⟩ := bcell hw'; go_simp; try with_reducible rfl)
    refine tab_value ?u7 ?g7 ?h7 ?_
    case g7 => kernel_rfl
    case h7 => (intro w' hw'; obtain ⟨hc', hf'⟩ := bcell hw'; go_simp; try with_reducible rfl)
    refine tab_box ?o8 ?g8 ?h8 ?_
    case g8 => kernel_rfl
    case h8 => (intro w' hw'; obtain ⟨hc', hf'⟩ := bcell hw'; go_simp; try with_reducible rfl)
    intro bz wz hez hlz hsz hbz
    have EZ := Lib.hid (Ext.trans E2.out hez)
    have A1_z := Lib.hid (A1_2.out.later hez)
    have A2_z := Lib.hid (A2_2.out.later hez)
    have NZ : Hid (New w wz bz) := ⟨Nat.le_trans BD.out.size hlz, hsz⟩
    have HZ := Lib.hid hbz
    clear hez hlz hsz hbz
    refine tab_value ?u9 ?g9 ?h9 ?_
    case g9 => kernel_rfl
    case h9 => (intro w' hw'; obtain ⟨hc', hf'⟩ := bcell hw'; go_simp; try with_reducible rfl)
    refine wpTab_nil (fun wy hey => ?_)
    have EY := Lib.hid (Ext.trans EZ.out hey)
    have A1 := Lib.hid ((A1_z.out.later hey).wide BD.out.size)
    have A2 := Lib.hid ((A2_z.out.later hey).wide BD.out.size)
    have HY := Lib.hid ((hey.block bz NZ.out.2).trans HZ.out)
    have NY := Lib.hid (NZ.out.wide (w0 := w) (Nat.le_refl _) hey.size)
    have BY := Lib.hid (BD.out.trans (Below.mono EY.out BD.out.size))
    clear hey
    go_wp2_with fail
    go_ret
    exact ⟨_, rfl, ast_new NY.out HY.out (.inr (.inr (.inr (.inr (.inr (.inr (.inl ⟨x, y, _, _, E.out, rfl, HN.out, HL.out, KX.out, A1.out, A2.out, rfl⟩))))))), BY.out⟩
  · skip
    refine tab_value ?u10 ?g10 ?h10 ?_
    case g10 => kernel_rfl
    case h10 => (intro w' hw'; obtain ⟨hc', hf'⟩ := bcell hw'; go_simp; try with_reducible rfl)
    refine tab_value ?u11 ?g11 ?h11 ?_
    case g11 => kernel_rfl
    case h11 => (intro w' hw'; obtain ⟨hc', hf'⟩ := bcell hw'; go_simp; try with_reducible rfl)
    refine tab_value ?u12 ?g12 ?h12 ?_
    case g12 => kernel_rfl
    case h12 => (intro w' hw'; obtain ⟨hc', hf'⟩ := bcell hw'; go_simp; try with_reducible rfl)
    refine tab_box ?o13 ?g13 ?h13 ?_
    case g13 => kernel_rfl
    case h13 => (intro w' hw'; obtain ⟨hc', hf'⟩ := bcell hw'; go_simp; try with_reducible rfl)
    intro bz wz hez hlz hsz hbz
    have EZ := Lib.hid (Ext.trans E2.out hez)
    have A1_z := Lib.hid (A1_2.out.later hez)
    have A2_z := Lib.hid (A2_2.out.later hez)
    have NZ : Hid (New w wz bz) := ⟨Nat.le_trans BD.out.size hlz, hsz⟩
    have HZ := Lib.hid hbz
    clear hez hlz hsz hbz
    refine tab_value ?u14 ?g14 ?h14 ?_
    case g14 => kernel_rfl
    case h14 => (intro w' hw'; obtain ⟨hc', hf'⟩ := bcell hw'; go_simp; try with_reducible rfl)
    refine wpTab_nil (fun wy hey => ?_)
    have EY := Lib.hid (Ext.trans EZ.out hey)
    have A1 := Lib.hid ((A1_z.out.later hey).wide BD.out.size)
    have A2 := Lib.hid ((A2_z.out.later hey).wide BD.out.size)
    have HY := Lib.hid ((hey.block bz NZ.out.2).trans HZ.out)
    have NY := Lib.hid (NZ.out.wide (w0 := w) (Nat.le_refl _) hey.size)
    have BY := Lib.hid (BD.out.trans (Below.mono EY.out BD.out.size))
    clear hey
    go_wp2_with fail
    go_ret
    exact ⟨_, rfl, ast_new NY.out HY.out (.inr (.inr (.inr (.inr (.inr (.inr (.inl ⟨x, y, _, _, E.out, rfl, HN.out, HL.out, KX.out, A1.out, A2.out, rfl⟩))))))), BY.out⟩

end Go.Proofs.YtlfbmpenekiigaaGreatDoor
