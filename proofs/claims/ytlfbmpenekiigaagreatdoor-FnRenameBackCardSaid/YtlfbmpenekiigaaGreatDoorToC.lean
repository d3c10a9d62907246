/- impl.treeOfMore: the elements that it makes, kind by kind; conditions: the node reads as a tree of good form, of few kids; it is known what treeOf makes of smaller trees. -/
import Derived.Test.YtlfbmpenekiigaaGreatDoorToA
import Derived.WalkKit
namespace Go.Proofs.YtlfbmpenekiigaaGreatDoor
open Go.ChangeShapes Go.WideShapes Go.ChangeAt Go.RowKit
set_option linter.unusedVariables false

set_option maxRecDepth 100000 in
set_option maxHeartbeats 2000000 in
theorem toArrayType (d : Nat) (T : Makes 16 d) (t : Tree) (kv : Value) (w : World) (h : Able w (d + 1) t kv) (x y : Tree) (hk : t.kind = kArrayType) (ht : t.text = ByteArray.empty) (hn : t.num = 0) (hl : t.kids = [x, y]) (hx : x.kind ≠ ByteArray.empty) (hy : y.kind ≠ ByteArray.empty) :
    Calls Tryz.prog 35 #[.agg #[.string t.kind, .string t.text, .int .i64 t.num, kv]] w (Made w (d + 1) t) := by
  obtain ⟨a, c, rfl⟩ := h.kids.form
  have HA := Lib.hid h
  have B := Lib.hid (below1 w (.cells #[.string t.kind, .string t.text, .int .i64 t.num, .slice a t.kids.length c] 24))
  have BD : Hid (Below w.heap.size w (w.alloc (.cells #[.string t.kind, .string t.text, .int .i64 t.num, .slice a t.kids.length c] 24)).drew) := (below1 w (.cells #[.string t.kind, .string t.text, .int .i64 t.num, .slice a t.kids.length c] 24)).drew
  have HT := Lib.hid T
  have k0 := kind_is (a := t.kind) kArrayType hk (l := [65, 114, 114, 97, 121, 84, 121, 112, 101]) rfl
  have E := Lib.hid hk
  have HN := Lib.hid hn
  have HTX := Lib.hid ht
  have HL := Lib.hid hl
  have KX := Lib.hid hx
  have KY := Lib.hid hy
  clear h T hk hn hl ht hx hy
  go_enter Tryz.func35, Tryz.ntmps35
  go_wp2_with fail
  refine wp_region_tab 7 (TabK d x y [] (w.alloc (.cells #[.string t.kind, .string t.text, .int .i64 t.num, .slice a t.kids.length c] 24)).drew) (TabK.stable d x y [] _) (by kernel_rfl) (by kernel_rfl) ?_
  simp only [List.take_succ_cons, List.take_zero, List.drop_succ_cons, List.drop_zero]
  refine tab_value ?u1 ?g1 ?h1 ?_
  case g1 => kernel_rfl
  case h1 => (intro w' hw'; obtain ⟨hc', hf'⟩ := bcell hw'; go_simp; try with_reducible rfl)
  refine tab_call 33 ?a2 ?g2 ?h2 ?c2 ?_
  case g2 => kernel_rfl
  case h2 => (intro w' hw'; obtain ⟨hc', hf'⟩ := bcell hw'; go_simp; try with_reducible rfl)
  case c2 => (intro w' hw'; have W0 := Below.size hw'; refine (kidC d HT.out t x _ 0 w' (HA.out.below (BD.out.trans (Below.mono hw' BD.out.size))) (by rw [HL.out]; rfl)).mono ?_; rintro e w'' ⟨v, rfl, hv, hb⟩; exact ⟨v, ⟨fun _ _ => hv.wide W0, fun _ e => absurd e (by simp), fun e => absurd e (by decide)⟩, rfl, hb⟩)
  rintro v1 w1 he1 ⟨hv1, _, _⟩
  have V1 := hv1 rfl rfl
  obtain ⟨p1, b1, rfl, _⟩ := V1.ptr KX.out
  have A1_1 := Lib.hid V1
  have E1 := Lib.hid he1
  clear hv1 V1 he1
  refine tab_value ?u3 ?g3 ?h3 ?_
  case g3 => kernel_rfl
  case h3 => (intro w' hw'; obtain ⟨hc', hf'⟩ := bcell hw'; go_simp; try with_reducible rfl)
  refine tab_call 33 ?a4 ?g4 ?h4 ?c4 ?_
  case g4 => kernel_rfl
  case h4 => (intro w' hw'; obtain ⟨hc', hf'⟩ := bcell hw'; go_simp; try with_reducible rfl)
  case c4 => (intro w' hw'; have W0 := Below.size hw'; refine (kidC d HT.out t y _ 1 w' (HA.out.below (BD.out.trans (Below.mono hw' BD.out.size))) (by rw [HL.out]; rfl)).mono ?_; rintro e w'' ⟨v, rfl, hv, hb⟩; exact ⟨v, ⟨fun _ e => absurd e (by simp), fun _ _ => hv.wide W0, fun e => absurd e (by decide)⟩, rfl, hb⟩)
  rintro v2 w2 he2 ⟨_, hv2, _⟩
  have V2 := hv2 rfl rfl
  obtain ⟨p2, b2, rfl, _⟩ := V2.ptr KY.out
  have A2_2 := Lib.hid V2
  have E2 := Lib.hid (Ext.trans E1.out he2)
  have A1_2 := Lib.hid (A1_1.out.later he2)
  clear hv2 V2 he2
  refine tab_value ?u5 ?g5 ?h5 ?_
  case g5 => kernel_rfl
  case h5 => (intro w' hw'; obtain ⟨hc', hf'⟩ := bcell hw'; go_simp; try with_reducible rfl)
  refine tab_box ?o6 ?g6 ?h6 ?_
  case g6 => kernel_rfl
  case h6 => (intro w' hw'; obtain ⟨hc', hf'⟩ := bcell hw'; go_simp; try with_reducible rfl)
  intro bz wz hez hlz hsz hbz
  have EZ := Lib.hid (Ext.trans E2.out hez)
  have A1_z := Lib.hid (A1_2.out.later hez)
  have A2_z := Lib.hid (A2_2.out.later hez)
  have NZ : Hid (New w wz bz) := ⟨Nat.le_trans BD.out.size hlz, hsz⟩
  have HZ := Lib.hid hbz
  clear hez hlz hsz hbz
  refine tab_value ?u7 ?g7 ?h7 ?_
  case g7 => kernel_rfl
  case h7 => (intro w' hw'; obtain ⟨hc', hf'⟩ := bcell hw'; go_simp; try with_reducible rfl)
  refine wpTab_nil (fun wy hey => ?_)
  have EY := Lib.hid (Ext.trans EZ.out hey)
  have A1 := Lib.hid ((A1_z.out.later hey).wide BD.out.size)
  have A2 := Lib.hid ((A2_z.out.later hey).wide BD.out.size)
  have HY := Lib.hid ((hey.block bz NZ.out.2).trans HZ.out)
  have NY := Lib.hid (NZ.out.wide (w0 := w) (Nat.le_refl _) hey.size)
  have BY := Lib.hid (BD.out.trans (Below.mono EY.out BD.out.size))
  clear hey
  go_wp2_with fail
  go_ret
  exact ⟨_, rfl, ast_new NY.out HY.out (.inr (.inr (.inr (.inr (.inr (.inl ⟨_, x, y, _, _, by rw [E.out]; exact .tail _ (.tail _ (.tail _ (.head _))), HTX.out, HN.out, HL.out, KX.out, KY.out, A1.out, A2.out, rfl⟩)))))), BY.out⟩

set_option maxRecDepth 100000 in
set_option maxHeartbeats 2000000 in
theorem toVectorType (d : Nat) (T : Makes 16 d) (t : Tree) (kv : Value) (w : World) (h : Able w (d + 1) t kv) (x y : Tree) (hk : t.kind = kVectorType) (ht : t.text = ByteArray.empty) (hn : t.num = 0) (hl : t.kids = [x, y]) (hx : x.kind ≠ ByteArray.empty) (hy : y.kind ≠ ByteArray.empty) :
    Calls Tryz.prog 35 #[.agg #[.string t.kind, .string t.text, .int .i64 t.num, kv]] w (Made w (d + 1) t) := by
  obtain ⟨a, c, rfl⟩ := h.kids.form
  have HA := Lib.hid h
  have B := Lib.hid (below1 w (.cells #[.string t.kind, .string t.text, .int .i64 t.num, .slice a t.kids.length c] 24))
  have BD : Hid (Below w.heap.size w (w.alloc (.cells #[.string t.kind, .string t.text, .int .i64 t.num, .slice a t.kids.length c] 24)).drew) := (below1 w (.cells #[.string t.kind, .string t.text, .int .i64 t.num, .slice a t.kids.length c] 24)).drew
  have HT := Lib.hid T
  have k0 := kind_ne (a := t.kind) kArrayType (by rw [hk]; decide) (l := [65, 114, 114, 97, 121, 84, 121, 112, 101]) rfl
  have k1 := kind_is (a := t.kind) kVectorType hk (l := [86, 101, 99, 116, 111, 114, 84, 121, 112, 101]) rfl
  have E := Lib.hid hk
  have HN := Lib.hid hn
  have HTX := Lib.hid ht
  have HL := Lib.hid hl
  have KX := Lib.hid hx
  have KY := Lib.hid hy
  clear h T hk hn hl ht hx hy
  go_enter Tryz.func35, Tryz.ntmps35
  go_wp2_with fail
  refine wp_region_tab 7 (TabK d x y [] (w.alloc (.cells #[.string t.kind, .string t.text, .int .i64 t.num, .slice a t.kids.length c] 24)).drew) (TabK.stable d x y [] _) (by kernel_rfl) (by kernel_rfl) ?_
  simp only [List.take_succ_cons, List.take_zero, List.drop_succ_cons, List.drop_zero]
  refine tab_value ?u1 ?g1 ?h1 ?_
  case g1 => kernel_rfl
  case h1 => (intro w' hw'; obtain ⟨hc', hf'⟩ := bcell hw'; go_simp; try with_reducible rfl)
  refine tab_call 33 ?a2 ?g2 ?h2 ?c2 ?_
  case g2 => kernel_rfl
  case h2 => (intro w' hw'; obtain ⟨hc', hf'⟩ := bcell hw'; go_simp; try with_reducible rfl)
  case c2 => (intro w' hw'; have W0 := Below.size hw'; refine (kidC d HT.out t x _ 0 w' (HA.out.below (BD.out.trans (Below.mono hw' BD.out.size))) (by rw [HL.out]; rfl)).mono ?_; rintro e w'' ⟨v, rfl, hv, hb⟩; exact ⟨v, ⟨fun _ _ => hv.wide W0, fun _ e => absurd e (by simp), fun e => absurd e (by decide)⟩, rfl, hb⟩)
  rintro v1 w1 he1 ⟨hv1, _, _⟩
  have V1 := hv1 rfl rfl
  obtain ⟨p1, b1, rfl, _⟩ := V1.ptr KX.out
  have A1_1 := Lib.hid V1
  have E1 := Lib.hid he1
  clear hv1 V1 he1
  refine tab_value ?u3 ?g3 ?h3 ?_
  case g3 => kernel_rfl
  case h3 => (intro w' hw'; obtain ⟨hc', hf'⟩ := bcell hw'; go_simp; try with_reducible rfl)
  refine tab_call 33 ?a4 ?g4 ?h4 ?c4 ?_
  case g4 => kernel_rfl
  case h4 => (intro w' hw'; obtain ⟨hc', hf'⟩ := bcell hw'; go_simp; try with_reducible rfl)
  case c4 => (intro w' hw'; have W0 := Below.size hw'; refine (kidC d HT.out t y _ 1 w' (HA.out.below (BD.out.trans (Below.mono hw' BD.out.size))) (by rw [HL.out]; rfl)).mono ?_; rintro e w'' ⟨v, rfl, hv, hb⟩; exact ⟨v, ⟨fun _ e => absurd e (by simp), fun _ _ => hv.wide W0, fun e => absurd e (by decide)⟩, rfl, hb⟩)
  rintro v2 w2 he2 ⟨_, hv2, _⟩
  have V2 := hv2 rfl rfl
  obtain ⟨p2, b2, rfl, _⟩ := V2.ptr KY.out
  have A2_2 := Lib.hid V2
  have E2 := Lib.hid (Ext.trans E1.out he2)
  have A1_2 := Lib.hid (A1_1.out.later he2)
  clear hv2 V2 he2
  refine tab_value ?u5 ?g5 ?h5 ?_
  case g5 => kernel_rfl
  case h5 => (intro w' hw'; obtain ⟨hc', hf'⟩ := bcell hw'; go_simp; try with_reducible rfl)
  refine tab_box ?o6 ?g6 ?h6 ?_
  case g6 => kernel_rfl
  case h6 => (intro w' hw'; obtain ⟨hc', hf'⟩ := bcell hw'; go_simp; try with_reducible rfl)
  intro bz wz hez hlz hsz hbz
  have EZ := Lib.hid (Ext.trans E2.out hez)
  have A1_z := Lib.hid (A1_2.out.later hez)
  have A2_z := Lib.hid (A2_2.out.later hez)
  have NZ : Hid (New w wz bz) := ⟨Nat.le_trans BD.out.size hlz, hsz⟩
  have HZ := Lib.hid hbz
  clear hez hlz hsz hbz
  refine tab_value ?u7 ?g7 ?h7 ?_
  case g7 => kernel_rfl
  case h7 => (intro w' hw'; obtain ⟨hc', hf'⟩ := bcell hw'; go_simp; try with_reducible rfl)
  refine wpTab_nil (fun wy hey => ?_)
  have EY := Lib.hid (Ext.trans EZ.out hey)
  have A1 := Lib.hid ((A1_z.out.later hey).wide BD.out.size)
  have A2 := Lib.hid ((A2_z.out.later hey).wide BD.out.size)
  have HY := Lib.hid ((hey.block bz NZ.out.2).trans HZ.out)
  have NY := Lib.hid (NZ.out.wide (w0 := w) (Nat.le_refl _) hey.size)
  have BY := Lib.hid (BD.out.trans (Below.mono EY.out BD.out.size))
  clear hey
  go_wp2_with fail
  go_ret
  exact ⟨_, rfl, ast_new NY.out HY.out (.inr (.inr (.inr (.inr (.inr (.inl ⟨_, x, y, _, _, by rw [E.out]; exact .tail _ (.tail _ (.tail _ (.tail _ (.head _)))), HTX.out, HN.out, HL.out, KX.out, KY.out, A1.out, A2.out, rfl⟩)))))), BY.out⟩

set_option maxRecDepth 100000 in
set_option maxHeartbeats 2000000 in
theorem toPtrMem (d : Nat) (T : Makes 16 d) (t : Tree) (kv : Value) (w : World) (h : Able w (d + 1) t kv) (x y : Tree) (hk : t.kind = kPtrMem) (ht : t.text = ByteArray.empty) (hn : t.num = 0) (hl : t.kids = [x, y]) (hx : x.kind ≠ ByteArray.empty) (hy : y.kind ≠ ByteArray.empty) :
    Calls Tryz.prog 35 #[.agg #[.string t.kind, .string t.text, .int .i64 t.num, kv]] w (Made w (d + 1) t) := by
  obtain ⟨a, c, rfl⟩ := h.kids.form
  have HA := Lib.hid h
  have B := Lib.hid (below1 w (.cells #[.string t.kind, .string t.text, .int .i64 t.num, .slice a t.kids.length c] 24))
  have BD : Hid (Below w.heap.size w (w.alloc (.cells #[.string t.kind, .string t.text, .int .i64 t.num, .slice a t.kids.length c] 24)).drew) := (below1 w (.cells #[.string t.kind, .string t.text, .int .i64 t.num, .slice a t.kids.length c] 24)).drew
  have HT := Lib.hid T
  have k0 := kind_ne (a := t.kind) kArrayType (by rw [hk]; decide) (l := [65, 114, 114, 97, 121, 84, 121, 112, 101]) rfl
  have k1 := kind_ne (a := t.kind) kVectorType (by rw [hk]; decide) (l := [86, 101, 99, 116, 111, 114, 84, 121, 112, 101]) rfl
  have k2 := kind_is (a := t.kind) kPtrMem hk (l := [80, 116, 114, 77, 101, 109]) rfl
  have E := Lib.hid hk
  have HN := Lib.hid hn
  have HTX := Lib.hid ht
  have HL := Lib.hid hl
  have KX := Lib.hid hx
  have KY := Lib.hid hy
  clear h T hk hn hl ht hx hy
  go_enter Tryz.func35, Tryz.ntmps35
  go_wp2_with fail
  refine wp_region_tab 7 (TabK d x y [] (w.alloc (.cells #[.string t.kind, .string t.text, .int .i64 t.num, .slice a t.kids.length c] 24)).drew) (TabK.stable d x y [] _) (by kernel_rfl) (by kernel_rfl) ?_
  simp only [List.take_succ_cons, List.take_zero, List.drop_succ_cons, List.drop_zero]
  refine tab_value ?u1 ?g1 ?h1 ?_
  case g1 => kernel_rfl
  case h1 => (intro w' hw'; obtain ⟨hc', hf'⟩ := bcell hw'; go_simp; try with_reducible rfl)
  refine tab_call 33 ?a2 ?g2 ?h2 ?c2 ?_
  case g2 => kernel_rfl
  case h2 => (intro w' hw'; obtain ⟨hc', hf'⟩ := bcell hw'; go_simp; try with_reducible rfl)
  case c2 => (intro w' hw'; have W0 := Below.size hw'; refine (kidC d HT.out t x _ 0 w' (HA.out.below (BD.out.trans (Below.mono hw' BD.out.size))) (by rw [HL.out]; rfl)).mono ?_; rintro e w'' ⟨v, rfl, hv, hb⟩; exact ⟨v, ⟨fun _ _ => hv.wide W0, fun _ e => absurd e (by simp), fun e => absurd e (by decide)⟩, rfl, hb⟩)
  rintro v1 w1 he1 ⟨hv1, _, _⟩
  have V1 := hv1 rfl rfl
  obtain ⟨p1, b1, rfl, _⟩ := V1.ptr KX.out
  have A1_1 := Lib.hid V1
  have E1 := Lib.hid he1
  clear hv1 V1 he1
  refine tab_value ?u3 ?g3 ?h3 ?_
  case g3 => kernel_rfl
  case h3 => (intro w' hw'; obtain ⟨hc', hf'⟩ := bcell hw'; go_simp; try with_reducible rfl)
  refine tab_call 33 ?a4 ?g4 ?h4 ?c4 ?_
  case g4 => kernel_rfl
  case h4 => (intro w' hw'; obtain ⟨hc', hf'⟩ := bcell hw'; go_simp; try with_reducible rfl)
  case c4 => (intro w' hw'; have W0 := Below.size hw'; refine (kidC d HT.out t y _ 1 w' (HA.out.below (BD.out.trans (Below.mono hw' BD.out.size))) (by rw [HL.out]; rfl)).mono ?_; rintro e w'' ⟨v, rfl, hv, hb⟩; exact ⟨v, ⟨fun _ e => absurd e (by simp), fun _ _ => hv.wide W0, fun e => absurd e (by decide)⟩, rfl, hb⟩)
  rintro v2 w2 he2 ⟨_, hv2, _⟩
  have V2 := hv2 rfl rfl
  obtain ⟨p2, b2, rfl, _⟩ := V2.ptr KY.out
  have A2_2 := Lib.hid V2
  have E2 := Lib.hid (Ext.trans E1.out he2)
  have A1_2 := Lib.hid (A1_1.out.later he2)
  clear hv2 V2 he2
  refine tab_value ?u5 ?g5 ?h5 ?_
  case g5 => kernel_rfl
  case h5 => (intro w' hw'; obtain ⟨hc', hf'⟩ := bcell hw'; go_simp; try with_reducible rfl)
  refine tab_box ?o6 ?g6 ?h6 ?_
  case g6 => kernel_rfl
  case h6 => (intro w' hw'; obtain ⟨hc', hf'⟩ := bcell hw'; go_simp; try with_reducible rfl)
  intro bz wz hez hlz hsz hbz
  have EZ := Lib.hid (Ext.trans E2.out hez)
  have A1_z := Lib.hid (A1_2.out.later hez)
  have A2_z := Lib.hid (A2_2.out.later hez)
  have NZ : Hid (New w wz bz) := ⟨Nat.le_trans BD.out.size hlz, hsz⟩
  have HZ := Lib.hid hbz
  clear hez hlz hsz hbz
  refine tab_value ?u7 ?g7 ?h7 ?_
  case g7 => kernel_rfl
  case h7 => (intro w' hw'; obtain ⟨hc', hf'⟩ := bcell hw'; go_simp; try with_reducible rfl)
  refine wpTab_nil (fun wy hey => ?_)
  have EY := Lib.hid (Ext.trans EZ.out hey)
  have A1 := Lib.hid ((A1_z.out.later hey).wide BD.out.size)
  have A2 := Lib.hid ((A2_z.out.later hey).wide BD.out.size)
  have HY := Lib.hid ((hey.block bz NZ.out.2).trans HZ.out)
  have NY := Lib.hid (NZ.out.wide (w0 := w) (Nat.le_refl _) hey.size)
  have BY := Lib.hid (BD.out.trans (Below.mono EY.out BD.out.size))
  clear hey
  go_wp2_with fail
  go_ret
  exact ⟨_, rfl, ast_new NY.out HY.out (.inr (.inr (.inr (.inr (.inr (.inl ⟨_, x, y, _, _, by rw [E.out]; exact .tail _ (.tail _ (.tail _ (.tail _ (.tail _ (.head _))))), HTX.out, HN.out, HL.out, KX.out, KY.out, A1.out, A2.out, rfl⟩)))))), BY.out⟩

set_option maxRecDepth 100000 in
set_option maxHeartbeats 2000000 in
theorem toVendorQualifier (d : Nat) (T : Makes 16 d) (t : Tree) (kv : Value) (w : World) (h : Able w (d + 1) t kv) (x y : Tree) (hk : t.kind = kVendorQualifier) (ht : t.text = ByteArray.empty) (hn : t.num = 0) (hl : t.kids = [x, y]) (hx : x.kind ≠ ByteArray.empty) (hy : y.kind ≠ ByteArray.empty) :
    Calls Tryz.prog 35 #[.agg #[.string t.kind, .string t.text, .int .i64 t.num, kv]] w (Made w (d + 1) t) := by
  obtain ⟨a, c, rfl⟩ := h.kids.form
  have HA := Lib.hid h
  have B := Lib.hid (below1 w (.cells #[.string t.kind, .string t.text, .int .i64 t.num, .slice a t.kids.length c] 24))
  have BD : Hid (Below w.heap.size w (w.alloc (.cells #[.string t.kind, .string t.text, .int .i64 t.num, .slice a t.kids.length c] 24)).drew) := (below1 w (.cells #[.string t.kind, .string t.text, .int .i64 t.num, .slice a t.kids.length c] 24)).drew
  have HT := Lib.hid T
  have k0 := kind_ne (a := t.kind) kArrayType (by rw [hk]; decide) (l := [65, 114, 114, 97, 121, 84, 121, 112, 101]) rfl
  have k1 := kind_ne (a := t.kind) kVectorType (by rw [hk]; decide) (l := [86, 101, 99, 116, 111, 114, 84, 121, 112, 101]) rfl
  have k2 := kind_ne (a := t.kind) kPtrMem (by rw [hk]; decide) (l := [80, 116, 114, 77, 101, 109]) rfl
  have k3 := kind_is (a := t.kind) kVendorQualifier hk (l := [86, 101, 110, 100, 111, 114, 81, 117, 97, 108, 105, 102, 105, 101, 114]) rfl
  have E := Lib.hid hk
  have HN := Lib.hid hn
  have HTX := Lib.hid ht
  have HL := Lib.hid hl
  have KX := Lib.hid hx
  have KY := Lib.hid hy
  clear h T hk hn hl ht hx hy
  go_enter Tryz.func35, Tryz.ntmps35
  go_wp2_with fail
  refine wp_region_tab 7 (TabK d x y [] (w.alloc (.cells #[.string t.kind, .string t.text, .int .i64 t.num, .slice a t.kids.length c] 24)).drew) (TabK.stable d x y [] _) (by kernel_rfl) (by kernel_rfl) ?_
  simp only [List.take_succ_cons, List.take_zero, List.drop_succ_cons, List.drop_zero]
  refine tab_value ?u1 ?g1 ?h1 ?_
  case g1 => kernel_rfl
  case h1 => (intro w' hw'; obtain ⟨hc', hf'⟩ := bcell hw'; go_simp; try with_reducible rfl)
  refine tab_call 33 ?a2 ?g2 ?h2 ?c2 ?_
  case g2 => kernel_rfl
  case h2 => (intro w' hw'; obtain ⟨hc', hf'⟩ := bcell hw'; go_simp; try with_reducible rfl)
  case c2 => (intro w' hw'; have W0 := Below.size hw'; refine (kidC d HT.out t x _ 0 w' (HA.out.below (BD.out.trans (Below.mono hw' BD.out.size))) (by rw [HL.out]; rfl)).mono ?_; rintro e w'' ⟨v, rfl, hv, hb⟩; exact ⟨v, ⟨fun _ _ => hv.wide W0, fun _ e => absurd e (by simp), fun e => absurd e (by decide)⟩, rfl, hb⟩)
  rintro v1 w1 he1 ⟨hv1, _, _⟩
  have V1 := hv1 rfl rfl
  obtain ⟨p1, b1, rfl, _⟩ := V1.ptr KX.out
  have A1_1 := Lib.hid V1
  have E1 := Lib.hid he1
  clear hv1 V1 he1
  refine tab_value ?u3 ?g3 ?h3 ?_
  case g3 => kernel_rfl
  case h3 => (intro w' hw'; obtain ⟨hc', hf'⟩ := bcell hw'; go_simp; try with_reducible rfl)
  refine tab_call 33 ?a4 ?g4 ?h4 ?c4 ?_
  case g4 => kernel_rfl
  case h4 => (intro w' hw'; obtain ⟨hc', hf'⟩ := bcell hw'; go_simp; try with_reducible rfl)
  case c4 => (intro w' hw'; have W0 := Below.size hw'; refine (kidC d HT.out t y _ 1 w' (HA.out.below (BD.out.trans (Below.mono hw' BD.out.size))) (by rw [HL.out]; rfl)).mono ?_; rintro e w'' ⟨v, rfl, hv, hb⟩; exact ⟨v, ⟨fun _ e => absurd e (by simp), fun _ _ => hv.wide W0, fun e => absurd e (by decide)⟩, rfl, hb⟩)
  rintro v2 w2 he2 ⟨_, hv2, _⟩
  have V2 := hv2 rfl rfl
  obtain ⟨p2, b2, rfl, _⟩ := V2.ptr KY.out
  have A2_2 := Lib.hid V2
  have E2 := Lib.hid (Ext.trans E1.out he2)
  have A1_2 := Lib.hid (A1_1.out.later he2)
  clear hv2 V2 he2
  refine tab_value ?u5 ?g5 ?h5 ?_
  case g5 => kernel_rfl
  case h5 => (intro w' hw'; obtain ⟨hc', hf'⟩ := bcell hw'; go_simp; try with_reducible rfl)
  refine tab_box ?o6 ?g6 ?h6 ?_
  case g6 => kernel_rfl
  case h6 => (intro w' hw'; obtain ⟨hc', hf'⟩ := bcell hw'; go_simp; try with_reducible rfl)
  intro bz wz hez hlz hsz hbz
  have EZ := Lib.hid (Ext.trans E2.out hez)
  have A1_z := Lib.hid (A1_2.out.later hez)
  have A2_z := Lib.hid (A2_2.out.later hez)
  have NZ : Hid (New w wz bz) := ⟨Nat.le_trans BD.out.size hlz, hsz⟩
  have HZ := Lib.hid hbz
  clear hez hlz hsz hbz
  refine tab_value ?u7 ?g7 ?h7 ?_
  case g7 => kernel_rfl
  case h7 => (intro w' hw'; obtain ⟨hc', hf'⟩ := bcell hw'; go_simp; try with_reducible rfl)
  refine wpTab_nil (fun wy hey => ?_)
  have EY := Lib.hid (Ext.trans EZ.out hey)
  have A1 := Lib.hid ((A1_z.out.later hey).wide BD.out.size)
  have A2 := Lib.hid ((A2_z.out.later hey).wide BD.out.size)
  have HY := Lib.hid ((hey.block bz NZ.out.2).trans HZ.out)
  have NY := Lib.hid (NZ.out.wide (w0 := w) (Nat.le_refl _) hey.size)
  have BY := Lib.hid (BD.out.trans (Below.mono EY.out BD.out.size))
  clear hey
  go_wp2_with fail
  go_ret
  exact ⟨_, rfl, ast_new NY.out HY.out (.inr (.inr (.inr (.inr (.inr (.inl ⟨_, x, y, _, _, by rw [E.out]; exact .tail _ (.tail _ (.tail _ (.tail _ (.tail _ (.tail _ (.head _)))))), HTX.out, HN.out, HL.out, KX.out, KY.out, A1.out, A2.out, rfl⟩)))))), BY.out⟩

set_option maxRecDepth 100000 in
set_option maxHeartbeats 2000000 in
theorem toLiteral (d : Nat) (T : Makes 16 d) (t : Tree) (kv : Value) (w : World) (h : Able w (d + 1) t kv) (x : Tree) (hk : t.kind = kLiteral) (hn : t.num = 0 ∨ t.num = 1) (hl : t.kids = [x]) (hx : x.kind ≠ ByteArray.empty) :
    Calls Tryz.prog 35 #[.agg #[.string t.kind, .string t.text, .int .i64 t.num, kv]] w (Made w (d + 1) t) := by
  obtain ⟨a, c, rfl⟩ := h.kids.form
  have HA := Lib.hid h
  have B := Lib.hid (below1 w (.cells #[.string t.kind, .string t.text, .int .i64 t.num, .slice a t.kids.length c] 24))
  have BD : Hid (Below w.heap.size w (w.alloc (.cells #[.string t.kind, .string t.text, .int .i64 t.num, .slice a t.kids.length c] 24)).drew) := (below1 w (.cells #[.string t.kind, .string t.text, .int .i64 t.num, .slice a t.kids.length c] 24)).drew
  have HT := Lib.hid T
  have k0 := kind_ne (a := t.kind) kArrayType (by rw [hk]; decide) (l := [65, 114, 114, 97, 121, 84, 121, 112, 101]) rfl
  have k1 := kind_ne (a := t.kind) kVectorType (by rw [hk]; decide) (l := [86, 101, 99, 116, 111, 114, 84, 121, 112, 101]) rfl
  have k2 := kind_ne (a := t.kind) kPtrMem (by rw [hk]; decide) (l := [80, 116, 114, 77, 101, 109]) rfl
  have k3 := kind_ne (a := t.kind) kVendorQualifier (by rw [hk]; decide) (l := [86, 101, 110, 100, 111, 114, 81, 117, 97, 108, 105, 102, 105, 101, 114]) rfl
  have k4 := kind_ne (a := t.kind) kSpecial (by rw [hk]; decide) (l := [83, 112, 101, 99, 105, 97, 108]) rfl
  have k5 := kind_ne (a := t.kind) kSpecial2 (by rw [hk]; decide) (l := [83, 112, 101, 99, 105, 97, 108, 50]) rfl
  have k6 := kind_is (a := t.kind) kLiteral hk (l := [76, 105, 116, 101, 114, 97, 108]) rfl
  have E := Lib.hid hk
  have HN := Lib.hid hn
  have HL := Lib.hid hl
  have KX := Lib.hid hx
  clear h T hk hn hl hx
  go_enter Tryz.func35, Tryz.ntmps35
  go_wp2_with fail
  refine wp_region_tab 10 (TabK d x x [] (w.alloc (.cells #[.string t.kind, .string t.text, .int .i64 t.num, .slice a t.kids.length c] 24)).drew) (TabK.stable d x x [] _) (by kernel_rfl) (by kernel_rfl) ?_
  simp only [List.take_succ_cons, List.take_zero, List.drop_succ_cons, List.drop_zero]
  refine tab_value ?u1 ?g1 ?h1 ?_
  case g1 => kernel_rfl
  case h1 => (intro w' hw'; obtain ⟨hc', hf'⟩ := bcell hw'; go_simp; try with_reducible rfl)
  refine tab_call 33 ?a2 ?g2 ?h2 ?c2 ?_
  case g2 => kernel_rfl
  case h2 => (intro w' hw'; obtain ⟨hc', hf'⟩ := bcell hw'; go_simp; try with_reducible rfl)
  case c2 => (intro w' hw'; have W0 := Below.size hw'; refine (kidC d HT.out t x _ 0 w' (HA.out.below (BD.out.trans (Below.mono hw' BD.out.size))) (by rw [HL.out]; rfl)).mono ?_; rintro e w'' ⟨v, rfl, hv, hb⟩; exact ⟨v, ⟨fun _ _ => hv.wide W0, fun _ e => absurd e (by simp), fun e => absurd e (by decide)⟩, rfl, hb⟩)
  rintro v1 w1 he1 ⟨hv1, _, _⟩
  have V1 := hv1 rfl rfl
  obtain ⟨p1, b1, rfl, _⟩ := V1.ptr KX.out
  have A1_1 := Lib.hid V1
  have E1 := Lib.hid he1
  clear hv1 V1 he1
  refine tab_value ?u3 ?g3 ?h3 ?_
  case g3 => kernel_rfl
  case h3 => (intro w' hw'; obtain ⟨hc', hf'⟩ := bcell hw'; go_simp; try with_reducible rfl)
  refine tab_value ?u4 ?g4 ?h4 ?_
  case g4 => kernel_rfl
  case h4 => (intro w' hw'; obtain ⟨hc', hf'⟩ := bcell hw'; go_simp; try with_reducible rfl)
  refine tab_value ?u5 ?g5 ?h5 ?_
  case g5 => kernel_rfl
  case h5 => (intro w' hw'; obtain ⟨hc', hf'⟩ := bcell hw'; go_simp; try with_reducible rfl)
  refine tab_value ?u6 ?g6 ?h6 ?_
  case g6 => kernel_rfl
  case h6 => (intro w' hw'; obtain ⟨hc', hf'⟩ := bcell hw'; go_simp; try with_reducible rfl)
  refine tab_value ?u7 ?g7 ?h7 ?_
  case g7 => kernel_rfl
  case h7 => (intro w' hw'; obtain ⟨hc', hf'⟩ := bcell hw'; go_simp; try with_reducible rfl)
  refine tab_value ?u8 ?g8 ?h8 ?_
  case g8 => kernel_rfl
  case h8 => (intro w' hw'; obtain ⟨hc', hf'⟩ := bcell hw'; go_simp; try with_reducible rfl)
  refine tab_box ?o9 ?g9 ?h9 ?_
  case g9 => kernel_rfl
  case h9 => (intro w' hw'; obtain ⟨hc', hf'⟩ := bcell hw'; go_simp; try with_reducible rfl)
  intro bz wz hez hlz hsz hbz
  have EZ := Lib.hid (Ext.trans E1.out hez)
  have A1_z := Lib.hid (A1_1.out.later hez)
  have NZ : Hid (New w wz bz) := ⟨Nat.le_trans BD.out.size hlz, hsz⟩
  have HZ := Lib.hid hbz
  clear hez hlz hsz hbz
  refine tab_value ?u10 ?g10 ?h10 ?_
  case g10 => kernel_rfl
  case h10 => (intro w' hw'; obtain ⟨hc', hf'⟩ := bcell hw'; go_simp; try with_reducible rfl)
  refine wpTab_nil (fun wy hey => ?_)
  have EY := Lib.hid (Ext.trans EZ.out hey)
  have A1 := Lib.hid ((A1_z.out.later hey).wide BD.out.size)
  have HY := Lib.hid ((hey.block bz NZ.out.2).trans HZ.out)
  have NY := Lib.hid (NZ.out.wide (w0 := w) (Nat.le_refl _) hey.size)
  have BY := Lib.hid (BD.out.trans (Below.mono EY.out BD.out.size))
  clear hey
  go_wp2_with fail
  go_ret
  exact ⟨_, rfl, ast_new NY.out HY.out (.inr (.inr (.inr (.inr (.inl ⟨x, _, E.out, rfl, HN.out, HL.out, KX.out, A1.out, rfl⟩))))), BY.out⟩

set_option maxRecDepth 100000 in
set_option maxHeartbeats 2000000 in
theorem toArgumentPack (d : Nat) (T : Makes 16 d) (t : Tree) (kv : Value) (w : World) (h : Able w (d + 1) t kv) (hk : t.kind = kArgumentPack) (ht : t.text = ByteArray.empty) (hn : t.num = 0) (hx : ∀ x ∈ t.kids, x.kind ≠ ByteArray.empty) :
    Calls Tryz.prog 35 #[.agg #[.string t.kind, .string t.text, .int .i64 t.num, kv]] w (Made w (d + 1) t) := by
  obtain ⟨a, c, rfl⟩ := h.kids.form
  have HA := Lib.hid h
  have B := Lib.hid (below1 w (.cells #[.string t.kind, .string t.text, .int .i64 t.num, .slice a t.kids.length c] 24))
  have BD : Hid (Below w.heap.size w (w.alloc (.cells #[.string t.kind, .string t.text, .int .i64 t.num, .slice a t.kids.length c] 24)).drew) := (below1 w (.cells #[.string t.kind, .string t.text, .int .i64 t.num, .slice a t.kids.length c] 24)).drew
  have HT := Lib.hid T
  have k0 := kind_ne (a := t.kind) kArrayType (by rw [hk]; decide) (l := [65, 114, 114, 97, 121, 84, 121, 112, 101]) rfl
  have k1 := kind_ne (a := t.kind) kVectorType (by rw [hk]; decide) (l := [86, 101, 99, 116, 111, 114, 84, 121, 112, 101]) rfl
  have k2 := kind_ne (a := t.kind) kPtrMem (by rw [hk]; decide) (l := [80, 116, 114, 77, 101, 109]) rfl
  have k3 := kind_ne (a := t.kind) kVendorQualifier (by rw [hk]; decide) (l := [86, 101, 110, 100, 111, 114, 81, 117, 97, 108, 105, 102, 105, 101, 114]) rfl
  have k4 := kind_ne (a := t.kind) kSpecial (by rw [hk]; decide) (l := [83, 112, 101, 99, 105, 97, 108]) rfl
  have k5 := kind_ne (a := t.kind) kSpecial2 (by rw [hk]; decide) (l := [83, 112, 101, 99, 105, 97, 108, 50]) rfl
  have k6 := kind_ne (a := t.kind) kLiteral (by rw [hk]; decide) (l := [76, 105, 116, 101, 114, 97, 108]) rfl
  have k7 := kind_is (a := t.kind) kArgumentPack hk (l := [65, 114, 103, 117, 109, 101, 110, 116, 80, 97, 99, 107]) rfl
  have E := Lib.hid hk
  have HN := Lib.hid hn
  have HTX := Lib.hid ht
  have HX := Lib.hid hx
  clear h T hk hn ht hx
  go_enter Tryz.func35, Tryz.ntmps35
  go_wp2_with fail
  refine (kidsC d HT.out t _ 0 _ (HA.out.below B.out) (Nat.zero_le _) (fun i x _ hi => HX.out x (List.mem_of_getElem? hi))).mono ?_
  rintro e w1 ⟨u, rfl, hu, hb1⟩
  obtain ⟨ua, uc, rfl⟩ := hu.form
  have U := Lib.hid (hu.wide B.out.size)
  have B1 := Lib.hid (B.out.trans (hb1.mono B.out.size))
  clear hu hb1
  go_wp2_with fail
  go_ret
  exact made_new (by simp) B1.out (.inr (.inr (.inr (.inr (.inr (.inr (.inr (.inl ⟨_, by rw [E.out]; exact .tail _ (.head _), HTX.out, HN.out, HX.out, U.out.later (below1 w1 _), rfl⟩))))))))

set_option maxRecDepth 100000 in
set_option maxHeartbeats 2000000 in
theorem toClosure (d : Nat) (T : Makes 16 d) (t : Tree) (kv : Value) (w : World) (h : Able w (d + 1) t kv) (hk : t.kind = kClosure) (ht : t.text = ByteArray.empty) (hx : ∀ x ∈ t.kids, x.kind ≠ ByteArray.empty) :
    Calls Tryz.prog 35 #[.agg #[.string t.kind, .string t.text, .int .i64 t.num, kv]] w (Made w (d + 1) t) := by
  obtain ⟨a, c, rfl⟩ := h.kids.form
  have HA := Lib.hid h
  have B := Lib.hid (below1 w (.cells #[.string t.kind, .string t.text, .int .i64 t.num, .slice a t.kids.length c] 24))
  have BD : Hid (Below w.heap.size w (w.alloc (.cells #[.string t.kind, .string t.text, .int .i64 t.num, .slice a t.kids.length c] 24)).drew) := (below1 w (.cells #[.string t.kind, .string t.text, .int .i64 t.num, .slice a t.kids.length c] 24)).drew
  have HT := Lib.hid T
  have k0 := kind_ne (a := t.kind) kArrayType (by rw [hk]; decide) (l := [65, 114, 114, 97, 121, 84, 121, 112, 101]) rfl
  have k1 := kind_ne (a := t.kind) kVectorType (by rw [hk]; decide) (l := [86, 101, 99, 116, 111, 114, 84, 121, 112, 101]) rfl
  have k2 := kind_ne (a := t.kind) kPtrMem (by rw [hk]; decide) (l := [80, 116, 114, 77, 101, 109]) rfl
  have k3 := kind_ne (a := t.kind) kVendorQualifier (by rw [hk]; decide) (l := [86, 101, 110, 100, 111, 114, 81, 117, 97, 108, 105, 102, 105, 101, 114]) rfl
  have k4 := kind_ne (a := t.kind) kSpecial (by rw [hk]; decide) (l := [83, 112, 101, 99, 105, 97, 108]) rfl
  have k5 := kind_ne (a := t.kind) kSpecial2 (by rw [hk]; decide) (l := [83, 112, 101, 99, 105, 97, 108, 50]) rfl
  have k6 := kind_ne (a := t.kind) kLiteral (by rw [hk]; decide) (l := [76, 105, 116, 101, 114, 97, 108]) rfl
  have k7 := kind_ne (a := t.kind) kArgumentPack (by rw [hk]; decide) (l := [65, 114, 103, 117, 109, 101, 110, 116, 80, 97, 99, 107]) rfl
  have k8 := kind_ne (a := t.kind) kPackExpansion (by rw [hk]; decide) (l := [80, 97, 99, 107, 69, 120, 112, 97, 110, 115, 105, 111, 110]) rfl
  have k9 := kind_is (a := t.kind) kClosure hk (l := [67, 108, 111, 115, 117, 114, 101]) rfl
  have E := Lib.hid hk
  have HTX := Lib.hid ht
  have KX := Lib.hid hx
  clear h T hk ht hx
  go_enter Tryz.func35, Tryz.ntmps35
  go_wp2_with fail
  refine wp_region_tab 7 (TabK d t t (t.kids.drop 0) (w.alloc (.cells #[.string t.kind, .string t.text, .int .i64 t.num, .slice a t.kids.length c] 24)).drew) (TabK.stable d t t (t.kids.drop 0) _) (by kernel_rfl) (by kernel_rfl) ?_
  simp only [List.take_succ_cons, List.take_zero, List.drop_succ_cons, List.drop_zero]
  refine tab_value ?u1 ?g1 ?h1 ?_
  case g1 => kernel_rfl
  case h1 => (intro w' hw'; obtain ⟨hc', hf'⟩ := bcell hw'; go_simp; try with_reducible rfl)
  refine tab_call 34 ?a2 ?g2 ?h2 ?c2 ?_
  case g2 => kernel_rfl
  case h2 => (intro w' hw'; obtain ⟨hc', hf'⟩ := bcell hw'; go_simp; try with_reducible rfl)
  case c2 => (intro w' hw'; have W0 := Below.size hw'; refine (kidsC d HT.out t _ 0 w' (HA.out.below (BD.out.trans (Below.mono hw' BD.out.size))) (Nat.zero_le _) (fun i z hi hz => KX.out z (List.mem_of_getElem? hz))).mono ?_; rintro e w'' ⟨v, rfl, hv, hb⟩; exact ⟨v, ⟨fun e => absurd e (by decide), fun e => absurd e (by decide), fun _ => hv.wide W0⟩, rfl, hb⟩)
  rintro v1 w1 he1 ⟨_, _, hv1⟩
  have V1 := hv1 rfl
  obtain ⟨a1, c1, rfl⟩ := V1.form
  have A1_1 := Lib.hid V1
  have E1 := Lib.hid he1
  clear hv1 V1 he1
  refine tab_value ?u3 ?g3 ?h3 ?_
  case g3 => kernel_rfl
  case h3 => (intro w' hw'; obtain ⟨hc', hf'⟩ := bcell hw'; go_simp; try with_reducible rfl)
  refine tab_value ?u4 ?g4 ?h4 ?_
  case g4 => kernel_rfl
  case h4 => (intro w' hw'; obtain ⟨hc', hf'⟩ := bcell hw'; go_simp; try with_reducible rfl)
  refine tab_value ?u5 ?g5 ?h5 ?_
  case g5 => kernel_rfl
  case h5 => (intro w' hw'; obtain ⟨hc', hf'⟩ := bcell hw'; go_simp; try with_reducible rfl)
  refine tab_box ?o6 ?g6 ?h6 ?_
  case g6 => kernel_rfl
  case h6 => (intro w' hw'; obtain ⟨hc', hf'⟩ := bcell hw'; go_simp; try with_reducible rfl)
  intro bz wz hez hlz hsz hbz
  have EZ := Lib.hid (Ext.trans E1.out hez)
  have A1_z := Lib.hid (A1_1.out.later hez)
  have NZ : Hid (New w wz bz) := ⟨Nat.le_trans BD.out.size hlz, hsz⟩
  have HZ := Lib.hid hbz
  clear hez hlz hsz hbz
  refine tab_value ?u7 ?g7 ?h7 ?_
  case g7 => kernel_rfl
  case h7 => (intro w' hw'; obtain ⟨hc', hf'⟩ := bcell hw'; go_simp; try with_reducible rfl)
  refine wpTab_nil (fun wy hey => ?_)
  have EY := Lib.hid (Ext.trans EZ.out hey)
  have A1 := Lib.hid ((A1_z.out.later hey).wide BD.out.size)
  have HY := Lib.hid ((hey.block bz NZ.out.2).trans HZ.out)
  have NY := Lib.hid (NZ.out.wide (w0 := w) (Nat.le_refl _) hey.size)
  have BY := Lib.hid (BD.out.trans (Below.mono EY.out BD.out.size))
  clear hey
  go_wp2_with fail
  go_ret
  exact ⟨_, rfl, ast_new NY.out HY.out (.inr (.inr (.inr (.inr (.inr (.inr (.inr (.inr (.inl ⟨_, _, E.out, rfl, HTX.out, KX.out, RowAt.none _ _ _, A1.out, rfl⟩))))))))), BY.out⟩

set_option maxRecDepth 100000 in
set_option maxHeartbeats 2000000 in
theorem toUnnamedType (d : Nat) (T : Makes 16 d) (t : Tree) (kv : Value) (w : World) (h : Able w (d + 1) t kv) (hk : t.kind = kUnnamedType) (ht : t.text = ByteArray.empty) (hl : t.kids = []) :
    Calls Tryz.prog 35 #[.agg #[.string t.kind, .string t.text, .int .i64 t.num, kv]] w (Made w (d + 1) t) := by
  obtain ⟨a, c, rfl⟩ := h.kids.form
  have HA := Lib.hid h
  have B := Lib.hid (below1 w (.cells #[.string t.kind, .string t.text, .int .i64 t.num, .slice a t.kids.length c] 24))
  have BD : Hid (Below w.heap.size w (w.alloc (.cells #[.string t.kind, .string t.text, .int .i64 t.num, .slice a t.kids.length c] 24)).drew) := (below1 w (.cells #[.string t.kind, .string t.text, .int .i64 t.num, .slice a t.kids.length c] 24)).drew
  have HT := Lib.hid T
  have k0 := kind_ne (a := t.kind) kArrayType (by rw [hk]; decide) (l := [65, 114, 114, 97, 121, 84, 121, 112, 101]) rfl
  have k1 := kind_ne (a := t.kind) kVectorType (by rw [hk]; decide) (l := [86, 101, 99, 116, 111, 114, 84, 121, 112, 101]) rfl
  have k2 := kind_ne (a := t.kind) kPtrMem (by rw [hk]; decide) (l := [80, 116, 114, 77, 101, 109]) rfl
  have k3 := kind_ne (a := t.kind) kVendorQualifier (by rw [hk]; decide) (l := [86, 101, 110, 100, 111, 114, 81, 117, 97, 108, 105, 102, 105, 101, 114]) rfl
  have k4 := kind_ne (a := t.kind) kSpecial (by rw [hk]; decide) (l := [83, 112, 101, 99, 105, 97, 108]) rfl
  have k5 := kind_ne (a := t.kind) kSpecial2 (by rw [hk]; decide) (l := [83, 112, 101, 99, 105, 97, 108, 50]) rfl
  have k6 := kind_ne (a := t.kind) kLiteral (by rw [hk]; decide) (l := [76, 105, 116, 101, 114, 97, 108]) rfl
  have k7 := kind_ne (a := t.kind) kArgumentPack (by rw [hk]; decide) (l := [65, 114, 103, 117, 109, 101, 110, 116, 80, 97, 99, 107]) rfl
  have k8 := kind_ne (a := t.kind) kPackExpansion (by rw [hk]; decide) (l := [80, 97, 99, 107, 69, 120, 112, 97, 110, 115, 105, 111, 110]) rfl
  have k9 := kind_ne (a := t.kind) kClosure (by rw [hk]; decide) (l := [67, 108, 111, 115, 117, 114, 101]) rfl
  have k10 := kind_is (a := t.kind) kUnnamedType hk (l := [85, 110, 110, 97, 109, 101, 100, 84, 121, 112, 101]) rfl
  have E := Lib.hid hk
  have HTX := Lib.hid ht
  have HL := Lib.hid hl
  clear h T hk ht hl
  go_enter Tryz.func35, Tryz.ntmps35
  go_wp2_with fail
  go_ret
  exact made_new (by simp) B.out (.inr (.inl ⟨E.out, rfl, HTX.out, HL.out, rfl⟩))

set_option maxRecDepth 100000 in
set_option maxHeartbeats 2000000 in
theorem toTaggedName (d : Nat) (T : Makes 16 d) (t : Tree) (kv : Value) (w : World) (h : Able w (d + 1) t kv) (x y : Tree) (hk : t.kind = kTaggedName) (ht : t.text = ByteArray.empty) (hn : t.num = 0) (hl : t.kids = [x, y]) (hx : x.kind ≠ ByteArray.empty) (hy : y.kind ≠ ByteArray.empty) :
    Calls Tryz.prog 35 #[.agg #[.string t.kind, .string t.text, .int .i64 t.num, kv]] w (Made w (d + 1) t) := by
  obtain ⟨a, c, rfl⟩ := h.kids.form
  have HA := Lib.hid h
  have B := Lib.hid (below1 w (.cells #[.string t.kind, .string t.text, .int .i64 t.num, .slice a t.kids.length c] 24))
  have BD : Hid (Below w.heap.size w (w.alloc (.cells #[.string t.kind, .string t.text, .int .i64 t.num, .slice a t.kids.length c] 24)).drew) := (below1 w (.cells #[.string t.kind, .string t.text, .int .i64 t.num, .slice a t.kids.length c] 24)).drew
  have HT := Lib.hid T
  have k0 := kind_ne (a := t.kind) kArrayType (by rw [hk]; decide) (l := [65, 114, 114, 97, 121, 84, 121, 112, 101]) rfl
  have k1 := kind_ne (a := t.kind) kVectorType (by rw [hk]; decide) (l := [86, 101, 99, 116, 111, 114, 84, 121, 112, 101]) rfl
  have k2 := kind_ne (a := t.kind) kPtrMem (by rw [hk]; decide) (l := [80, 116, 114, 77, 101, 109]) rfl
  have k3 := kind_ne (a := t.kind) kVendorQualifier (by rw [hk]; decide) (l := [86, 101, 110, 100, 111, 114, 81, 117, 97, 108, 105, 102, 105, 101, 114]) rfl
  have k4 := kind_ne (a := t.kind) kSpecial (by rw [hk]; decide) (l := [83, 112, 101, 99, 105, 97, 108]) rfl
  have k5 := kind_ne (a := t.kind) kSpecial2 (by rw [hk]; decide) (l := [83, 112, 101, 99, 105, 97, 108, 50]) rfl
  have k6 := kind_ne (a := t.kind) kLiteral (by rw [hk]; decide) (l := [76, 105, 116, 101, 114, 97, 108]) rfl
  have k7 := kind_ne (a := t.kind) kArgumentPack (by rw [hk]; decide) (l := [65, 114, 103, 117, 109, 101, 110, 116, 80, 97, 99, 107]) rfl
  have k8 := kind_ne (a := t.kind) kPackExpansion (by rw [hk]; decide) (l := [80, 97, 99, 107, 69, 120, 112, 97, 110, 115, 105, 111, 110]) rfl
  have k9 := kind_ne (a := t.kind) kClosure (by rw [hk]; decide) (l := [67, 108, 111, 115, 117, 114, 101]) rfl
  have k10 := kind_ne (a := t.kind) kUnnamedType (by rw [hk]; decide) (l := [85, 110, 110, 97, 109, 101, 100, 84, 121, 112, 101]) rfl
  have k11 := kind_is (a := t.kind) kTaggedName hk (l := [84, 97, 103, 103, 101, 100, 78, 97, 109, 101]) rfl
  have E := Lib.hid hk
  have HN := Lib.hid hn
  have HTX := Lib.hid ht
  have HL := Lib.hid hl
  have KX := Lib.hid hx
  have KY := Lib.hid hy
  clear h T hk hn hl ht hx hy
  go_enter Tryz.func35, Tryz.ntmps35
  go_wp2_with fail
  refine wp_region_tab 7 (TabK d x y [] (w.alloc (.cells #[.string t.kind, .string t.text, .int .i64 t.num, .slice a t.kids.length c] 24)).drew) (TabK.stable d x y [] _) (by kernel_rfl) (by kernel_rfl) ?_
  simp only [List.take_succ_cons, List.take_zero, List.drop_succ_cons, List.drop_zero]
  refine tab_value ?u1 ?g1 ?h1 ?_
  case g1 => kernel_rfl
  case h1 => (intro w' hw'; obtain ⟨hc', hf'⟩ := bcell hw'; go_simp; try with_reducible rfl)
  refine tab_call 33 ?a2 ?g2 ?h2 ?c2 ?_
  case g2 => kernel_rfl
  case h2 => (intro w' hw'; obtain ⟨hc', hf'⟩ := bcell hw'; go_simp; try with_reducible rfl)
  case c2 => (intro w' hw'; have W0 := Below.size hw'; refine (kidC d HT.out t x _ 0 w' (HA.out.below (BD.out.trans (Below.mono hw' BD.out.size))) (by rw [HL.out]; rfl)).mono ?_; rintro e w'' ⟨v, rfl, hv, hb⟩; exact ⟨v, ⟨fun _ _ => hv.wide W0, fun _ e => absurd e (by simp), fun e => absurd e (by decide)⟩, rfl, hb⟩)
  rintro v1 w1 he1 ⟨hv1, _, _⟩
  have V1 := hv1 rfl rfl
  obtain ⟨p1, b1, rfl, _⟩ := V1.ptr KX.out
  have A1_1 := Lib.hid V1
  have E1 := Lib.hid he1
  clear hv1 V1 he1
  refine tab_value ?u3 ?g3 ?h3 ?_
  case g3 => kernel_rfl
  case h3 => (intro w' hw'; obtain ⟨hc', hf'⟩ := bcell hw'; go_simp; try with_reducible rfl)
  refine tab_call 33 ?a4 ?g4 ?h4 ?c4 ?_
  case g4 => kernel_rfl
  case h4 => (intro w' hw'; obtain ⟨hc', hf'⟩ := bcell hw'; go_simp; try with_reducible rfl)
  case c4 => (intro w' hw'; have W0 := Below.size hw'; refine (kidC d HT.out t y _ 1 w' (HA.out.below (BD.out.trans (Below.mono hw' BD.out.size))) (by rw [HL.out]; rfl)).mono ?_; rintro e w'' ⟨v, rfl, hv, hb⟩; exact ⟨v, ⟨fun _ e => absurd e (by simp), fun _ _ => hv.wide W0, fun e => absurd e (by decide)⟩, rfl, hb⟩)
  rintro v2 w2 he2 ⟨_, hv2, _⟩
  have V2 := hv2 rfl rfl
  obtain ⟨p2, b2, rfl, _⟩ := V2.ptr KY.out
  have A2_2 := Lib.hid V2
  have E2 := Lib.hid (Ext.trans E1.out he2)
  have A1_2 := Lib.hid (A1_1.out.later he2)
  clear hv2 V2 he2
  refine tab_value ?u5 ?g5 ?h5 ?_
  case g5 => kernel_rfl
  case h5 => (intro w' hw'; obtain ⟨hc', hf'⟩ := bcell hw'; go_simp; try with_reducible rfl)
  refine tab_box ?o6 ?g6 ?h6 ?_
  case g6 => kernel_rfl
  case h6 => (intro w' hw'; obtain ⟨hc', hf'⟩ := bcell hw'; go_simp; try with_reducible rfl)
  intro bz wz hez hlz hsz hbz
  have EZ := Lib.hid (Ext.trans E2.out hez)
  have A1_z := Lib.hid (A1_2.out.later hez)
  have A2_z := Lib.hid (A2_2.out.later hez)
  have NZ : Hid (New w wz bz) := ⟨Nat.le_trans BD.out.size hlz, hsz⟩
  have HZ := Lib.hid hbz
  clear hez hlz hsz hbz
  refine tab_value ?u7 ?g7 ?h7 ?_
  case g7 => kernel_rfl
  case h7 => (intro w' hw'; obtain ⟨hc', hf'⟩ := bcell hw'; go_simp; try with_reducible rfl)
  refine wpTab_nil (fun wy hey => ?_)
  have EY := Lib.hid (Ext.trans EZ.out hey)
  have A1 := Lib.hid ((A1_z.out.later hey).wide BD.out.size)
  have A2 := Lib.hid ((A2_z.out.later hey).wide BD.out.size)
  have HY := Lib.hid ((hey.block bz NZ.out.2).trans HZ.out)
  have NY := Lib.hid (NZ.out.wide (w0 := w) (Nat.le_refl _) hey.size)
  have BY := Lib.hid (BD.out.trans (Below.mono EY.out BD.out.size))
  clear hey
  go_wp2_with fail
  go_ret
  exact ⟨_, rfl, ast_new NY.out HY.out (.inr (.inr (.inr (.inr (.inr (.inl ⟨_, x, y, _, _, by rw [E.out]; exact .tail _ (.tail _ (.tail _ (.tail _ (.tail _ (.tail _ (.tail _ (.head _))))))), HTX.out, HN.out, HL.out, KX.out, KY.out, A1.out, A2.out, rfl⟩)))))), BY.out⟩

set_option maxRecDepth 100000 in
set_option maxHeartbeats 2000000 in
theorem toCast (d : Nat) (T : Makes 16 d) (t : Tree) (kv : Value) (w : World) (h : Able w (d + 1) t kv) (x : Tree) (hk : t.kind = kCast) (ht : t.text = ByteArray.empty) (hn : t.num = 0) (hl : t.kids = [x]) (hx : x.kind ≠ ByteArray.empty) :
    Calls Tryz.prog 35 #[.agg #[.string t.kind, .string t.text, .int .i64 t.num, kv]] w (Made w (d + 1) t) := by
  obtain ⟨a, c, rfl⟩ := h.kids.form
  have HA := Lib.hid h
  have B := Lib.hid (below1 w (.cells #[.string t.kind, .string t.text, .int .i64 t.num, .slice a t.kids.length c] 24))
  have BD : Hid (Below w.heap.size w (w.alloc (.cells #[.string t.kind, .string t.text, .int .i64 t.num, .slice a t.kids.length c] 24)).drew) := (below1 w (.cells #[.string t.kind, .string t.text, .int .i64 t.num, .slice a t.kids.length c] 24)).drew
  have HT := Lib.hid T
  have k0 := kind_ne (a := t.kind) kArrayType (by rw [hk]; decide) (l := [65, 114, 114, 97, 121, 84, 121, 112, 101]) rfl
  have k1 := kind_ne (a := t.kind) kVectorType (by rw [hk]; decide) (l := [86, 101, 99, 116, 111, 114, 84, 121, 112, 101]) rfl
  have k2 := kind_ne (a := t.kind) kPtrMem (by rw [hk]; decide) (l := [80, 116, 114, 77, 101, 109]) rfl
  have k3 := kind_ne (a := t.kind) kVendorQualifier (by rw [hk]; decide) (l := [86, 101, 110, 100, 111, 114, 81, 117, 97, 108, 105, 102, 105, 101, 114]) rfl
  have k4 := kind_ne (a := t.kind) kSpecial (by rw [hk]; decide) (l := [83, 112, 101, 99, 105, 97, 108]) rfl
  have k5 := kind_ne (a := t.kind) kSpecial2 (by rw [hk]; decide) (l := [83, 112, 101, 99, 105, 97, 108, 50]) rfl
  have k6 := kind_ne (a := t.kind) kLiteral (by rw [hk]; decide) (l := [76, 105, 116, 101, 114, 97, 108]) rfl
  have k7 := kind_ne (a := t.kind) kArgumentPack (by rw [hk]; decide) (l := [65, 114, 103, 117, 109, 101, 110, 116, 80, 97, 99, 107]) rfl
  have k8 := kind_ne (a := t.kind) kPackExpansion (by rw [hk]; decide) (l := [80, 97, 99, 107, 69, 120, 112, 97, 110, 115, 105, 111, 110]) rfl
  have k9 := kind_ne (a := t.kind) kClosure (by rw [hk]; decide) (l := [67, 108, 111, 115, 117, 114, 101]) rfl
  have k10 := kind_ne (a := t.kind) kUnnamedType (by rw [hk]; decide) (l := [85, 110, 110, 97, 109, 101, 100, 84, 121, 112, 101]) rfl
  have k11 := kind_ne (a := t.kind) kTaggedName (by rw [hk]; decide) (l := [84, 97, 103, 103, 101, 100, 78, 97, 109, 101]) rfl
  have k12 := kind_ne (a := t.kind) kDefaultArg (by rw [hk]; decide) (l := [68, 101, 102, 97, 117, 108, 116, 65, 114, 103]) rfl
  have k13 := kind_ne (a := t.kind) kClone (by rw [hk]; decide) (l := [67, 108, 111, 110, 101]) rfl
  have k14 := kind_ne (a := t.kind) kGlobalCDtor (by rw [hk]; decide) (l := [71, 108, 111, 98, 97, 108, 67, 68, 116, 111, 114]) rfl
  have k15 := kind_is (a := t.kind) kCast hk (l := [67, 97, 115, 116]) rfl
  have E := Lib.hid hk
  have HN := Lib.hid hn
  have HTX := Lib.hid ht
  have HL := Lib.hid hl
  have HX := Lib.hid hx
  clear h T hk hn hl ht hx
  go_enter Tryz.func35, Tryz.ntmps35
  go_wp2_with fail
  refine (kidC d HT.out t x _ 0 _ (HA.out.below B.out) (by rw [HL.out]; rfl)).mono ?_
  rintro e w1 ⟨u, rfl, hu, hb1⟩
  obtain ⟨pu, bu, rfl, _⟩ := hu.ptr HX.out
  have U := Lib.hid (hu.wide B.out.size)
  have B1 := Lib.hid (B.out.trans (hb1.mono B.out.size))
  clear hu hb1
  go_wp2_with fail
  go_ret
  exact made_new (by simp) B1.out (.inr (.inr (.inr (.inl ⟨_, x, _, by rw [E.out]; exact .tail _ (.tail _ (.tail _ (.tail _ (.tail _ (.tail _ (.tail _ (.head _))))))), HTX.out, HN.out, HL.out, HX.out, U.out.put _, rfl⟩))))

end Go.Proofs.YtlfbmpenekiigaaGreatDoor
