/- impl.node: the node that it makes of some elements; conditions: the elements lie in memory, few of them, it is known what nodeOf makes of them. -/
import Derived.Test.YtlfbmpenekiigaaGreatDoorNodeA
import Derived.Test.YtlfbmpenekiigaaGreatDoorSpecN
namespace Go.Proofs.YtlfbmpenekiigaaGreatDoor
open Go.ChangeShapes Go.WideShapes Go.ChangeAt Go.RowKit
set_option linter.unusedVariables false

theorem BoxAt.set3 {w : World} {p : Nat} {t : Tree} {kv : Value} (h : BoxAt w p t kv) (u : Value) : BoxAt (w.setCell ⟨p, 3, none⟩ u) p t u := by
  unfold BoxAt at h ⊢
  exact heap_put h
theorem BoxAt.stay {w w' : World} {p : Nat} {t : Tree} {kv : Value} (h : BoxAt w p t kv) (e : w'.heap[p]? = w.heap[p]?) : BoxAt w' p t kv := by
  unfold BoxAt at h ⊢
  rw [e, h]

/-- What node says. -/
def NodeSaid (w : World) (d : Nat) (k tx : ByteArray) (num : Int) (l : List Tree) (e : Ending) (w' : World) : Prop :=
  ∃ kv, e = .returned (.agg #[.string k, .string tx, .int .i64 num, kv]) ∧ ListS w' (New w w') (KidsS w' (New w w') d) l kv ∧ Below w.heap.size w w'

/-- How node stands in a round. -/
structure Mid (w W wr : World) (d : Nat) (k tx : ByteArray) (num : Int) (nv : Value) (xs : List Value) (l : List Tree) (j : Nat) : Prop where
  row : RowN W wr d nv xs (l.take j)
  box : BoxAt wr (w.heap.size + 1) ⟨k, tx, num, l⟩ nv
  res : BoxAt wr w.heap.size Tree.nil (.slice none 0 0)
  below : Below w.heap.size w wr
  size : W.heap.size ≤ wr.heap.size

theorem take_snocT {l : List Tree} {j : Nat} {x : Tree} (h : l[j]? = some x) : l.take (j + 1) = l.take j ++ [x] := by
  obtain ⟨h2, h3⟩ := List.getElem?_eq_some_iff.1 h
  rw [List.take_succ_eq_append_getElem h2, h3]

set_option maxRecDepth 100000 in
set_option maxHeartbeats 4000000 in
theorem nodeC (d : Nat) (IH : NodeOf d) (k tx : ByteArray) (num : Int) (l : List Tree) (v : Value) (w : World) (S : Nat → Prop) (hrow : RowAt w S (AstAt w S d) l v) (low : ∀ b, S b → b < w.heap.size) (hsz : ∀ x ∈ l, All Sized d x) (hfew : l.length ≤ 200) :
    Calls Tryz.prog 37 #[.string k, .string tx, .int .i64 num, v] w (NodeSaid w d k tx num l) := by
  obtain ⟨la, lc, rfl, hlc, hlm, hcells⟩ := hrow
  obtain ⟨i0, hi0, hz0, hz1, hz2⟩ := info_parts Tryz.infoNode
  have ROW := Lib.hid hcells
  have HL := Lib.hid low
  have HSZ := Lib.hid hsz
  have H := Lib.hid IH
  obtain ⟨W, hW⟩ : ∃ W, W = (w.alloc (.cells #[.string ⟨#[]⟩, .string ⟨#[]⟩, .int .i64 0, .slice none 0 0] 24)).alloc (.cells #[.string k, .string tx, .int .i64 num, .slice none 0 0] 24) := ⟨_, rfl⟩
  have HWS : Hid (W.heap.size = w.heap.size + 2) := by show W.heap.size = _; rw [hW]; simp
  have BW : Hid (Below w.heap.size w W) := by rw [hW]; exact ((Below.refl _ _).alloc (Nat.le_refl _) _).alloc (by simp) _
  have X9 : Hid (BoxAt W (w.heap.size + 1) ⟨k, tx, num, l⟩ (.slice none 0 0)) := by show BoxAt _ _ _ _; unfold BoxAt; rw [hW]; exact alloc_here (by simp)
  have X8 : Hid (BoxAt W w.heap.size Tree.nil (.slice none 0 0)) := by
    show BoxAt _ _ _ _
    unfold BoxAt
    rw [hW, Below.heap_alloc _ _ _ (by simp)]
    exact heap_alloc_new w _
  clear hcells low hsz IH
  go_enter Tryz.func37, Tryz.ntmps37
  go_wp2_with fail
  rw [← hW]
  have HW := Lib.hid hW
  clear hW
  go_loopw [18] (fun i wr => ∃ (j : Nat) (xs : List Value) (nv : Value), j ≤ l.length ∧ i = .int .i64 j ∧ Hid (Mid w W wr d k tx num nv xs l j)) (fun i _ => l.length - (intOf i).toNat)
  case atStart => exact ⟨0, [], .slice none 0 0, Nat.zero_le _, rfl, by show Mid _ _ _ _ _ _ _ _ _ _ _; exact ⟨by simpa using RowN.nil W W d, X9.out, X8.out, BW.out, Nat.le_refl _⟩⟩
  case round =>
    obtain ⟨j, xs, nv, hj, rfl, M⟩ := hrel
    by_cases hlt : j < l.length
    · obtain ⟨x, hx⟩ : ∃ x, l[j]? = some x := ⟨_, List.getElem?_eq_getElem hlt⟩
      obtain ⟨ga, u, rfl, hSg, hcell, hast⟩ := ROW.out j x hx
      have AX := Lib.hid hast
      have HX := Lib.hid hx
      have cw := cells_below M.out.below _ _ _ hcell
      have c9 := M.out.box.c3
      have h9 := M.out.box.lt
      have hga := World.block_lt_of_cell? wr _ cw
      clear hast hx hSg hcell
      go_wp2_with fail
      refine T2.wp_region_tab 5 (TabN d x wr.drew) (TabN.stable d x _) (by kernel_rfl) (by kernel_rfl) ?_
      simp only [List.take_succ_cons, List.take_zero, List.drop_succ_cons, List.drop_zero]
      obtain ⟨V, hV⟩ : ∃ V, V = wr.drew := ⟨_, rfl⟩
      rw [← hV]
      have BV : Hid (Below wr.heap.size wr V) := by rw [hV]; exact (Below.refl wr.heap.size wr).drew
      have HVS : Hid (V.heap.size = wr.heap.size) := by rw [hV]; rfl
      have d9 := cells_below BV.out _ _ _ c9
      have l9 : w.heap.size + 1 < V.heap.size := by rw [HVS.out]; exact h9
      clear c9 h9 hV cw hga
      refine T2.tab_value ?u1 ?g1 ?h1 ?_
      case g1 => kernel_rfl
      case h1 => (intro w' hw'; obtain ⟨hc', hf'⟩ := bcell hw'; go_simp; try with_reducible rfl)
      simp only [Act.put, List.setIfInBounds_toArray, List.set_cons_succ, List.set_cons_zero]
      refine T2.tab_value ?u2 ?g2 ?h2 ?_
      case g2 => kernel_rfl
      case h2 => (intro w' hw'; obtain ⟨hc', hf'⟩ := bcell hw'; go_simp; try with_reducible rfl)
      simp only [Act.put, List.setIfInBounds_toArray, List.set_cons_succ, List.set_cons_zero]
      refine T2.tab_value ?u3 ?g3 ?h3 ?_
      case g3 => kernel_rfl
      case h3 => (intro w' hw'; obtain ⟨hc', hf'⟩ := bcell hw'; go_simp; try with_reducible rfl)
      simp only [Act.put, List.setIfInBounds_toArray, List.set_cons_succ, List.set_cons_zero]
      refine T2.tab_call 20 ?a4 ?g4 ?h4 ?c4 ?_
      case g4 => kernel_rfl
      case h4 => (intro w' hw'; obtain ⟨hc', hf'⟩ := bcell hw'; go_simp; try with_reducible rfl)
      case c4 => (intro w' hw'; have W0 := Below.size hw'; refine (H.out w' S x u ((AX.out.move fun b hb => ⟨hb, (M.out.below.trans ((BV.out.trans (hw'.mono (by rw [HVS.out]; exact Nat.le_refl _))).mono M.out.below.size)).block b (HL.out b hb)⟩)) (fun b hb => Nat.lt_of_lt_of_le (HL.out b hb) (Nat.le_trans M.out.below.size (by rw [← HVS.out]; exact W0))) (HSZ.out x (List.mem_of_getElem? HX.out))).mono ?_; rintro e w'' ⟨kv, rfl, hk, hb⟩; exact ⟨_, fun _ => ⟨kv, rfl, hk.move fun b hb => ⟨hb.wide W0 (Nat.le_refl _), rfl⟩⟩, rfl, hb⟩)
      rintro v1 w1 he1 hv1
      obtain ⟨kv, rfl, hk⟩ := hv1 rfl
      obtain ⟨xa, xc, rfl⟩ := hk.form
      have HK := Lib.hid hk
      have E1 := Lib.hid he1
      clear hv1 hk he1
      simp only [Act.put, List.setIfInBounds_toArray, List.set_cons_succ, List.set_cons_zero]
      refine T2.tab_slice 1 ?o5 ?g5 ?h5 ?_
      case g5 => kernel_rfl
      case h5 => (intro w' hw'; obtain ⟨hc', hf'⟩ := bcell hw'; go_simp; try with_reducible rfl)
      intro nb w2 he2 hl2 hs2 hb2
      simp only [Act.put, List.setIfInBounds_toArray, List.set_cons_succ, List.set_cons_zero]
      have E12 := Lib.hid he2
      have NB := Lib.hid hb2
      have NS := Lib.hid hs2
      clear he2 hl2 hb2 hs2
      refine T2.wpTab_nil (fun wy hey => ?_)
      have EY : Hid (Below wr.heap.size wr wy) := by
        have h1 : Ext V wy := Ext.trans (Ext.trans E1.out E12.out) hey
        exact BV.out.trans (Below.mono h1 (by rw [HVS.out]; exact Nat.le_refl _))
      have E1Y : Hid (Ext w1 wy) := Ext.trans E12.out hey
      have NY := Lib.hid ((hey.block nb NS.out).trans NB.out)
      have HK' : Hid (KidsS w1 (New wr w1) d x (.slice xa x.kids.length xc)) := HK.out.move fun b hb => ⟨⟨by have := hb.1; rw [HVS.out] at this; exact this, hb.2⟩, rfl⟩
      have B1' : Hid (Below wr.heap.size wr w1) := BV.out.trans (Below.mono E1.out (by rw [HVS.out]; exact Nat.le_refl _))
      have OY : Hid (wy.ownsRow W.heap.size 24 4 nv (l.take j).length xs) := M.out.row.1.kept (grown_of_below EY.out) (by cases hnv : nv.ownBlock with | none => exact .inl rfl | some q => exact .inr (by simp))
      have hlj : (l.take j).length = j := by simp; omega
      have X9Y := Lib.hid (M.out.box.stay (EY.out.block _ M.out.box.lt))
      have X8Y := Lib.hid (M.out.res.stay (EY.out.block _ M.out.res.lt))
      have hsy := EY.out.size
      have hms := M.out.size
      have hws := HWS.out
      have hbn := World.news_of_block (w := wy) NY.out
      clear hey d9 l9
      go_wp2_with (at_builtin; refine wpList_append_lies _ rfl (.tmp 23) (.tmp 26) 22 rfl W.heap.size 24 i0 _ 4 64 Tryz.underlying22 hi0 hz0 hz1 hz2 rfl (by decide) nv (l.take j).length xs rfl OY.out ⟨nb, 0, none⟩ 1 1 (cells4 x (.slice xa x.kids.length xc)) rfl rfl hbn (by simp [cells4, Value.oneCell']) (by omega) (by unfold maxLen; omega) (by omega) (by omega) wy.heap.size rfl ?_; intro gg cap w3 hown3 hgrow hat hlt3; have hrow9 : nv.ownBlock ≠ some (w.heap.size + 1) := (fun e => by have := (OY.out.lt _ e).1; omega); have c9 := (hgrow.cell_far ⟨w.heap.size + 1, 3, none⟩ X9Y.out.lt (Ne.symm hrow9)).trans X9Y.out.c3; have f9 := (hgrow.frozen_far ⟨w.heap.size + 1, 3, none⟩ X9Y.out.lt (Ne.symm hrow9)).trans (X9Y.out.free 3); have G1 := Lib.hid hown3; have G2 := Lib.hid hgrow; have G3 := Lib.hid hat; clear hown3 hgrow hat hlt3)
      go_roundw
      case rel =>
        have hrow9' : nv.ownBlock ≠ some w.heap.size := fun e => by have := (OY.out.lt _ e).1; omega
        have hs3 := G2.out.size
        refine ⟨j + 1, xs ++ cells4 x (.slice xa x.kids.length xc), .slice (some ⟨gg, 0, none⟩) (j + 1) cap, by omega, by go_num, ?_⟩
        show Mid _ _ _ _ _ _ _ _ _ _ _
        have hg9 : gg ≠ w.heap.size + 1 := fun e => by rcases G3.out with h | h; · rw [e] at h; exact hrow9 h
                                                       · have := X9Y.out.lt; omega
        have hg8 : gg ≠ w.heap.size := fun e => by rcases G3.out with h | h; · rw [e] at h; exact hrow9' h
                                                   · have := X8Y.out.lt; omega
        have hR := M.out.row.step (by omega) B1'.out HK'.out E1Y.out G1.out G2.out G3.out
        rw [hlj] at hR
        refine ⟨?_, ?_, ?_, ?_, ?_⟩
        · rw [take_snocT HX.out]
          exact ⟨ownsRow_setCell_below hR.1 (by show w.heap.size + 1 < W.heap.size; omega) _, fun i y hy => by
            obtain ⟨kv', hk', ha'⟩ := hR.2 i y hy
            exact ⟨kv', hk', ha'.move fun b hb => ⟨⟨⟨hb.1.1, by simpa [World.setCell] using hb.1.2⟩, hb.2⟩, Below.heap_setCell _ _ _ _ (by have := hb.1.1; show b ≠ w.heap.size + 1; omega)⟩⟩⟩
        · exact (X9Y.out.stay (G2.out.block _ X9Y.out.lt (Ne.symm hrow9))).set3 _
        · exact (X8Y.out.stay (G2.out.block _ X8Y.out.lt (Ne.symm hrow9'))).other (by omega) 3 _
        · exact ((M.out.below.trans (EY.out.mono M.out.below.size)).grown G2.out (by have := M.out.below.size; omega) (fun q hq => by have := (OY.out.lt q hq).1; omega)).setCell (by show w.heap.size ≤ w.heap.size + 1; omega) _
        · simp [World.setCell]; omega
      case measure => simp [intOf]; omega
    · obtain rfl : j = l.length := by omega
      obtain ⟨na, nc, rfl⟩ : ∃ na nc, nv = .slice na l.length nc := by
        have := M.out.row.form
        rw [List.take_length] at this
        exact this
      have b0 := M.out.box.c0
      have b1 := M.out.box.c1
      have b2 := M.out.box.c2
      have b3 := M.out.box.c3
      have r0 := M.out.res.c0
      have r1 := M.out.res.c1
      have r2 := M.out.res.c2
      have r3 := M.out.res.c3
      have f0 := M.out.res.free 0
      have f1 := M.out.res.free 1
      have f2 := M.out.res.free 2
      have f3 := M.out.res.free 3
      clear hlt hj
      go_wp2_with fail
      have hb := M.out.res.put ⟨k, tx, num, l⟩ (.slice na l.length nc)
      have s0 := hb.c0
      have s1 := hb.c1
      have s2 := hb.c2
      have s3 := hb.c3
      have hws := HWS.out
      have hR := M.out.row.row (by simp; omega)
      rw [List.take_length] at hR
      have hbw := M.out.below.size
      refine bodyPost_ret (v := .agg #[.string k, .string tx, .int .i64 num, .slice na l.length nc]) (by simp [results, Tryz.results37, go_sem, s0, s1, s2, s3]) rfl ⟨_, rfl, ?_, below_put M.out.below (Nat.le_refl _) _ _ _ _⟩
      have mv : ∀ b, New W wr b → New w ((((wr.setCell ⟨w.heap.size, 0, none⟩ (.string k)).setCell ⟨w.heap.size, 1, none⟩ (.string tx)).setCell ⟨w.heap.size, 2, none⟩ (.int .i64 num)).setCell ⟨w.heap.size, 3, none⟩ (.slice na l.length nc)) b ∧
          ((((wr.setCell ⟨w.heap.size, 0, none⟩ (.string k)).setCell ⟨w.heap.size, 1, none⟩ (.string tx)).setCell ⟨w.heap.size, 2, none⟩ (.int .i64 num)).setCell ⟨w.heap.size, 3, none⟩ (.slice na l.length nc)).heap[b]? = wr.heap[b]? := fun b hb => by
        have h1 := hb.1
        have h2 := hb.2
        refine ⟨⟨by omega, by simpa [World.setCell] using h2⟩, ?_⟩
        rw [Below.heap_setCell _ _ _ _ (by show b ≠ w.heap.size; omega), Below.heap_setCell _ _ _ _ (by show b ≠ w.heap.size; omega), Below.heap_setCell _ _ _ _ (by show b ≠ w.heap.size; omega), Below.heap_setCell _ _ _ _ (by show b ≠ w.heap.size; omega)]
      exact hR.move mv (fun x kv h => h.move mv)
end Go.Proofs.YtlfbmpenekiigaaGreatDoor
