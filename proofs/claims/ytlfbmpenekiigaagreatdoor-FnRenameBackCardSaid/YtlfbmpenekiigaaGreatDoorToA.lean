/- impl.Node.kid and impl.Node.kids: the elements that they make, where it is known what treeOf makes of smaller trees; conditions: the node reads as a tree of good form, of few kids. -/
import Derived.Test.YtlfbmpenekiigaaGreatDoorSpecR
import Derived.Test.YtlfbmpenekiigaaGreatDoorSize
import Derived.Test.YtlfbmpenekiigaaGreatDoorAst
import Derived.Test.YtlfbmpenekiigaaGreatDoorTab
import Derived.Deep.AppendLies
import Derived.OneCell
namespace Go.Proofs.YtlfbmpenekiigaaGreatDoor
open Go.ChangeShapes Go.WideShapes Go.ChangeAt Go.RowKit
set_option linter.unusedVariables false

/-- An element was made, in new blocks. -/
def Made (w : World) (d : Nat) (t : Tree) (e : Ending) (w' : World) : Prop := ∃ v, e = .returned v ∧ AstAt w' (New w w') d t v ∧ Below w.heap.size w w'

/-- A tree that an element is made of. -/
structure Able (w : World) (d : Nat) (t : Tree) (kv : Value) : Prop where
  kids : KidsAt w d t kv
  good : All Good d t
  few : All Few d t

theorem Able.below {w w' : World} {d : Nat} {t : Tree} {kv : Value} (h : Able w d t kv) (hb : Below w.heap.size w w') : Able w' d t kv := ⟨h.kids.below hb, h.good, h.few⟩

/-- What treeOf makes of trees of a depth. -/
def Makes (k d : Nat) : Prop := ∀ (t : Tree) (kv : Value) (w : World), Able w d t kv → Calls Tryz.prog k #[.agg #[.string t.kind, .string t.text, .int .i64 t.num, kv]] w (Made w d t)

theorem New.wide {w0 w w' w'' : World} {b : Nat} (h0 : w0.heap.size ≤ w.heap.size) (h1 : w'.heap.size ≤ w''.heap.size) (h : New w w' b) : New w0 w'' b := ⟨Nat.le_trans h0 h.1, Nat.lt_of_lt_of_le h.2 h1⟩

theorem AstAt.wide {w0 w w' : World} {d : Nat} {t : Tree} {v : Value} (h : AstAt w' (New w w') d t v) (h0 : w0.heap.size ≤ w.heap.size) : AstAt w' (New w0 w') d t v :=
  h.move fun b hb => ⟨hb.wide h0 (Nat.le_refl _), rfl⟩

/-- An element stays where old memory stays. -/
theorem AstAt.later {w0 w w' : World} {d : Nat} {t : Tree} {v : Value} (h : AstAt w (New w0 w) d t v) (hb : Below w.heap.size w w') : AstAt w' (New w0 w') d t v :=
  h.move fun b hn => ⟨hn.wide (Nat.le_refl _) hb.size, hb.block b hn.2⟩

theorem AstAt.cell1 {w : World} {S : Nat → Prop} {d : Nat} {t : Tree} {v : Value} (h : AstAt w S d t v) : v.oneCell' = true := by
  cases d with
  | zero => exact h.elim
  | succ d =>
    rcases h with ⟨_, rfl⟩ | ⟨p, b, cs, rfl, _⟩
    · rfl
    · rfl

theorem AstAt.ptr {w : World} {S : Nat → Prop} {d : Nat} {t : Tree} {v : Value} (h : AstAt w S d t v) (hk : t.kind ≠ ByteArray.empty) : ∃ p b, v = .iface p (.pointer (some ⟨b, 0, none⟩)) ∧ PtrK t.kind p := by
  cases d with
  | zero => exact h.elim
  | succ d =>
    rcases h with ⟨rfl, _⟩ | ⟨p, b, cs, e, _, _, hf⟩
    · exact (hk rfl).elim
    · exact ⟨p, b, e, hf.ptr⟩

set_option maxHeartbeats 1000000 in
theorem kidC (d : Nat) (T : Makes 16 d) (t x : Tree) (kv : Value) (i : Nat) (w : World) (h : Able w (d + 1) t kv) (hx : t.kids[i]? = some x) :
    Calls Tryz.prog 33 #[.agg #[.string t.kind, .string t.text, .int .i64 t.num, kv], .int .i64 i] w (Made w d x) := by
  obtain ⟨⟨_, _, _, a, c, rfl, hl, hc, hkids⟩, hg, hf⟩ := h
  have hlt : i < t.kids.length := (List.getElem?_eq_some_iff.1 hx).1
  obtain ⟨x', b, o, xa, xc, hx', hm, rfl, hbl, ⟨x0, x1, x2, x3⟩, KX⟩ := kid_at hkids hlt
  obtain rfl : x' = x := by rw [hx] at hx'; exact (Option.some.inj hx').symm
  have HA := Lib.hid (show Able w d x' (.slice xa x'.kids.length xc) from ⟨KX, hg.2 _ hm, hf.2 _ hm⟩)
  have B := Lib.hid (below1 w (.cells #[.string t.kind, .string t.text, .int .i64 t.num, .slice (some ⟨b, o, none⟩) t.kids.length c] 24))
  have HT := Lib.hid T
  clear hkids KX hg hf hx hx' hm T
  go_enter Tryz.func33, Tryz.ntmps33
  go_wp2_with fail
  refine (HT.out x' _ _ (HA.out.below B.out)).mono ?_
  rintro e w1 ⟨v, rfl, hv, hb1⟩
  have B1 := Lib.hid (B.out.trans (hb1.mono B.out.size))
  have V := Lib.hid (hv.wide B.out.size)
  clear hv hb1
  go_wp2_with fail
  go_ret
  exact ⟨v, rfl, V.out, B1.out⟩

theorem Tryz.infoAst : (Tryz.prog.info? 33).map (fun i => (i.zero, i.size, i.bytes)) = some (some .nilIface, 1, 16) := by kernel_rfl

theorem grown_of_below {w w' : World} (h : Below w.heap.size w w') : w.grownBy w' none := ⟨h.os, h.tape, h.output, h.size, fun k hk _ => h.block k hk⟩

/-- A row of elements of the call's own. -/
def RowS (w0 w : World) (d : Nat) (v : Value) (us : List Value) (l : List Tree) : Prop :=
  us.length = l.length ∧ w.ownsRow w0.heap.size 33 1 v us.length us ∧ ∀ (i : Nat) (x : Tree), l[i]? = some x → ∃ u, us[i]? = some u ∧ AstAt w (fun b => New w0 w b ∧ v.ownBlock ≠ some b) d x u

theorem RowS.nil (w0 w : World) (d : Nat) : RowS w0 w d (.slice none 0 0) [] [] := ⟨rfl, World.ownsRow_nil _ _ _ _, fun i x h => by simp at h⟩

theorem RowS.form {w0 w : World} {d : Nat} {v : Value} {us : List Value} {l : List Tree} (h : RowS w0 w d v us l) : ∃ a c, v = .slice a l.length c := by
  rw [← h.1]
  rcases h.2.1.2 with ⟨e, e0⟩ | ⟨g, cap, cur, e, _⟩
  · exact ⟨none, 0, by rw [e, e0]⟩
  · exact ⟨_, _, e⟩

theorem RowS.row {w0 w : World} {d : Nat} {v : Value} {us : List Value} {l : List Tree} (h : RowS w0 w d v us l) (hm : l.length ≤ 1000) : RowAt w (New w0 w) (AstAt w (New w0 w) d) l v := by
  obtain ⟨hl, hown, hel⟩ := h
  rcases hown.2 with ⟨rfl, h0⟩ | ⟨g, cap, cur, rfl, hg, hc, h1, h2, h3, h4⟩
  · exact ⟨none, 0, by rw [show l.length = 0 by omega], by omega, by omega, fun i x hx => by
      have := (List.getElem?_eq_some_iff.1 hx).1; omega⟩
  · refine ⟨some ⟨g, 0, none⟩, cap, by rw [hl], by omega, by unfold maxLen at h2; omega, fun i x hx => ?_⟩
    obtain ⟨u, hu, ha⟩ := hel i x hx
    have hlt := (List.getElem?_eq_some_iff.1 hu).1
    refine ⟨g, u, rfl, ⟨hg, (hown.lt g rfl).2⟩, (hown.cellAt i (by omega)).trans hu, ha.move fun b hb => ⟨hb.1, rfl⟩⟩

theorem RowS.step {w0 w w1 w3 : World} {d gg cap : Nat} {v u : Value} {us : List Value} {l : List Tree} {x : Tree} (h : RowS w0 w d v us l) (h0 : w0.heap.size ≤ w.heap.size) (hb : Below w.heap.size w w1) (hu : AstAt w1 (New w w1) d x u)
    (hown1 : w3.ownsRow w0.heap.size 33 1 (.slice (some ⟨gg, 0, none⟩) (us.length + 1) cap) (us.length + 1) (us ++ [u])) (hgrow : (w1.alloc (.cells #[u] 33)).grownBy w3 v.ownBlock) (hat : v.ownBlock = some gg ∨ gg = w1.heap.size + 1) :
    RowS w0 w3 d (.slice (some ⟨gg, 0, none⟩) (us.length + 1) cap) (us ++ [u]) (l ++ [x]) := by
  obtain ⟨hl, hown, hel⟩ := h
  have hs1 := hb.size
  have hs3 : w1.heap.size + 1 ≤ w3.heap.size := by simpa using hgrow.size
  have old : ∀ k, k < w1.heap.size → v.ownBlock ≠ some k → w3.heap[k]? = w1.heap[k]? := fun k hk hne => by
    rw [hgrow.block k (by simp; omega) (fun e => hne e.symm), Below.heap_alloc _ _ _ hk]
  have hne : ∀ k, k < w1.heap.size → v.ownBlock ≠ some k → (Value.slice (some ⟨gg, 0, none⟩) (us.length + 1) cap).ownBlock ≠ some k := fun k hk hn e => by
    obtain rfl : gg = k := by simpa [Value.ownBlock] using e
    rcases hat with hat | hat
    · exact hn hat
    · omega
  refine ⟨by simp [hl], by simpa using hown1, fun i y hi => ?_⟩
  by_cases hc : i < l.length
  · rw [List.getElem?_append_left hc] at hi
    obtain ⟨u', hu', ha⟩ := hel i y hi
    refine ⟨u', by rw [List.getElem?_append_left (by omega)]; exact hu', ha.move fun b hb' => ?_⟩
    have hlt : b < w1.heap.size := Nat.lt_of_lt_of_le hb'.1.2 hs1
    exact ⟨⟨hb'.1.wide (Nat.le_refl _) (by omega), hne b hlt hb'.2⟩, (old b hlt hb'.2).trans (hb.block b hb'.1.2)⟩
  · have hi' : i = l.length ∧ y = x := by
      rw [List.getElem?_append_right (by omega)] at hi
      obtain ⟨h1, h2⟩ := List.getElem?_eq_some_iff.1 hi
      have h0 : i - l.length = 0 := by simp at h1; omega
      simp [h0] at h2
      exact ⟨by omega, h2.symm⟩
    obtain ⟨rfl, rfl⟩ := hi'
    refine ⟨u, by rw [List.getElem?_append_right (by omega)]; simp [hl], hu.move fun b hb' => ?_⟩
    have hv : v.ownBlock ≠ some b := fun e => by have := (hown.lt b e).2; have := hb'.1; omega
    exact ⟨⟨hb'.wide h0 (by omega), hne b hb'.2 hv⟩, old b hb'.2 hv⟩

set_option maxRecDepth 100000 in
set_option maxHeartbeats 2000000 in
theorem kidsC (d : Nat) (T : Makes 16 d) (t : Tree) (kv : Value) (n : Nat) (w : World) (h : Able w (d + 1) t kv) (hn : n ≤ t.kids.length) (hne : ∀ i x, n ≤ i → t.kids[i]? = some x → x.kind ≠ ByteArray.empty) :
    Calls Tryz.prog 34 #[.agg #[.string t.kind, .string t.text, .int .i64 t.num, kv], .int .i64 n] w
      (fun e w' => ∃ v, e = .returned v ∧ RowAt w' (New w w') (AstAt w' (New w w') d) (t.kids.drop n) v ∧ Below w.heap.size w w') := by
  obtain ⟨⟨_, _, _, a, c, rfl, hl, hc, hkids⟩, hg, hf⟩ := h
  obtain ⟨i0, hi0, hz0, hz1, hz2⟩ := info_parts Tryz.infoAst
  have hfew : t.kids.length ≤ 200 := hf.1
  have HK := Lib.hid hkids
  have HG := Lib.hid hg.2
  have HF := Lib.hid hf.2
  have HT := Lib.hid T
  have HN := Lib.hid hne
  obtain ⟨W, hW⟩ : ∃ W, W = w.alloc (.cells #[.string t.kind, .string t.text, .int .i64 t.num, .slice a t.kids.length c] 24) := ⟨_, rfl⟩
  have hWs : W.heap.size = w.heap.size + 1 := by rw [hW]; simp
  have B : Hid (Below w.heap.size w W) := by rw [hW]; exact below1 w _
  have c3 : W.cell? ⟨w.heap.size, 3, none⟩ = some (.slice a t.kids.length c) := by rw [hW]; exact (World.cell?_alloc_at (w := w) _ _ _ _ rfl).trans (by simp)
  have f3 : W.frozen? ⟨w.heap.size, 3, none⟩ = false := by rw [hW]; simp [go_sem]
  clear hkids hg hf T hne
  go_enter Tryz.func34, Tryz.ntmps34
  go_wp2_with fail
  rw [← hW]
  have HW := Lib.hid hW
  clear hW
  go_loopw [5, 6] (fun v i wr => ∃ (j : Nat) (us : List Value), j ≤ t.kids.length - n ∧ us.length = j ∧ i = .int .i64 ((n + j : Nat) : Int) ∧ RowS W wr d v us ((t.kids.drop n).take j) ∧ Below W.heap.size W wr) (fun _ i _ => t.kids.length - (intOf i).toNat)
  case atStart => exact ⟨0, [], Nat.zero_le _, rfl, by simp, by simpa using RowS.nil W W d, Below.refl _ _⟩
  case round =>
    obtain ⟨j, us, hj, hus, rfl, hrow, hbel⟩ := hrel
    have hsz := hbel.size
    have c3' := ((bcell hbel).1 w.heap.size 3 (by omega)).trans c3
    have f3' := ((bcell hbel).2 w.heap.size 3 (by omega)).trans f3
    have BW := Lib.hid hbel
    have BR := Lib.hid (B.out.trans (hbel.mono B.out.size))
    have R := Lib.hid hrow
    obtain ⟨va, vc, rfl⟩ := hrow.form
    by_cases hlt : n + j < t.kids.length
    · obtain ⟨x, b, o, xa, xc, hx, hm, rfl, hbl, ⟨x0, x1, x2, x3⟩, KX⟩ := kid_at HK.out hlt
      obtain ⟨hc2, hf2⟩ := bcell BR.out
      have y0 := (hc2 _ _ hbl).trans x0
      have y1 := (hc2 _ _ hbl).trans x1
      have y2 := (hc2 _ _ hbl).trans x2
      have y3 := (hc2 _ _ hbl).trans x3
      have HA := Lib.hid (show Able w d x (.slice xa x.kids.length xc) from ⟨KX, HG.out x hm, HF.out x hm⟩)
      have HX := Lib.hid hx
      have HUS := Lib.hid hus
      have hul : us.length ≤ 200 := by omega
      have hul2 : ((t.kids.drop n).take j).length = us.length := R.out.1.symm
      clear hbel hrow KX hm hx hus hc2 hf2 x0 x1 x2 x3 c3 f3
      rw [hul2]
      go_wp2_with fail
      refine (HT.out x _ _ (HA.out.below BR.out)).mono ?_
      rintro e w1 ⟨u, rfl, hu, hb1⟩
      obtain ⟨pu, bu, rfl, _⟩ := hu.ptr (HN.out _ _ (by omega) HX.out)
      have U := Lib.hid hu
      have B1 := Lib.hid hb1
      have hs1 := hb1.size
      have OW : Hid (w1.ownsRow W.heap.size 33 1 (.slice va us.length vc) us.length us) := by
        have := R.out.2.1
        rw [hul2] at this
        refine this.kept (grown_of_below hb1) ?_
        cases va with
        | none => exact .inl rfl
        | some a => exact .inr (by simp [Value.ownBlock])
      clear hu hb1
      go_wp2_with (at_builtin; refine wpList_append_lies _ rfl (.tmp 15) (.tmp 22) 63 rfl W.heap.size 33 i0 _ 1 16 Tryz.underlying63 hi0 hz0 hz1 hz2 rfl (by decide) _ _ us rfl (OW.out.alloc _) ⟨w1.heap.size, 0, none⟩ 1 1 [.iface pu (.pointer (some ⟨bu, 0, none⟩))] rfl rfl (World.news_of_block (cs := #[.iface pu (.pointer (some ⟨bu, 0, none⟩))]) (t := 33) (fr := (0, 0)) (heap_alloc_new w1 _)) (by simp [Value.oneCell']) (by omega) (by unfold maxLen; omega) (by omega) (by simp; omega) (w1.heap.size + 1) (by simp) ?_; intro gg cap w3 hown1 hgrow hat hlt'; have G1 := Lib.hid hown1; have G2 := Lib.hid hgrow; have G3 := Lib.hid hat; clear hown1 hgrow hat hlt')
      go_roundw
      case rel =>
        refine ⟨j + 1, us ++ [.iface pu (.pointer (some ⟨bu, 0, none⟩))], by omega, by simp [HUS.out], by go_num, ?_, ?_⟩
        · have e : (t.kids.drop n).take (j + 1) = (t.kids.drop n).take j ++ [x] := by
            have h1 : (t.kids.drop n)[j]? = some x := by rw [List.getElem?_drop]; exact HX.out
            obtain ⟨h2, h3⟩ := List.getElem?_eq_some_iff.1 h1
            rw [List.take_succ_eq_append_getElem h2, h3]
          rw [e]
          have := R.out
          rw [hul2] at this
          exact this.step hsz B1.out U.out G1.out G2.out G3.out
        · exact ((BW.out.trans (B1.out.mono hsz)).alloc (by omega) _).grown G2.out (by simp; omega) (fun q hq => (OW.out.lt q hq).1)
      case measure => simp [intOf]; omega
    · have hj' : j = t.kids.length - n := by omega
      have ht : (t.kids.drop n).take j = t.kids.drop n := List.take_of_length_le (by simp; omega)
      have hrow' : Hid (RowAt wr (New w wr) (AstAt wr (New w wr) d) (t.kids.drop n) (.slice va ((t.kids.drop n).take j).length vc)) := by
        have h1 := R.out.row (by simp; omega)
        rw [ht] at h1 ⊢
        exact h1.map (fun b hb => ⟨hb.wide (by omega) (Nat.le_refl _), rfl⟩) (fun x u _ h => h.wide (by omega))
      clear hbel hrow c3 f3 hj' ht
      go_wp2_with fail
      go_ret
      exact ⟨_, rfl, hrow'.out, BR.out⟩

/-! ### A block that was just made -/
theorem cells_of {w : World} {b : Nat} {cs : Array Value} {ty : TypeId} (h : w.heap[b]? = some (.cells cs ty (0, 0))) : Cells w b cs.toList := fun i x hx => by
  rw [cell_of_row w b i cs ty (0, 0) h]
  simpa using hx

theorem ast_new {w w1 : World} {d : Nat} {t : Tree} {p b : Nat} {cs : Array Value} {ty : TypeId} (hb : New w w1 b) (h : w1.heap[b]? = some (.cells cs ty (0, 0))) (hf : Form w1 (New w w1) (AstAt w1 (New w w1) d) t p cs.toList) :
    AstAt w1 (New w w1) (d + 1) t (.iface p (.pointer (some ⟨b, 0, none⟩))) := .inr ⟨p, b, cs.toList, rfl, hb, cells_of h, hf⟩

theorem made_new {w w1 : World} {d n : Nat} {t : Tree} {p : Nat} {cs : Array Value} {ty : TypeId} (hn : n = w1.heap.size) (hb : Below w.heap.size w w1) (hf : Form (w1.alloc (.cells cs ty)) (New w (w1.alloc (.cells cs ty))) (AstAt (w1.alloc (.cells cs ty)) (New w (w1.alloc (.cells cs ty))) d) t p cs.toList) :
    Made w (d + 1) t (.returned (.iface p (.pointer (some ⟨n, 0, none⟩)))) (w1.alloc (.cells cs ty)) :=
  hn ▸ ⟨_, rfl, ast_new ⟨hb.size, by simp⟩ (heap_alloc_new w1 _) hf, hb.alloc hb.size _⟩

theorem AstAt.put {w w1 : World} {d : Nat} {t : Tree} {v : Value} (h : AstAt w1 (New w w1) d t v) (o : Obj) : AstAt (w1.alloc o) (New w (w1.alloc o)) d t v := h.later (below1 w1 o)
theorem RowAt.later {w w1 w2 : World} {d : Nat} {l : List Tree} {v : Value} (h : RowAt w1 (New w w1) (AstAt w1 (New w w1) d) l v) (hb : Below w1.heap.size w1 w2) : RowAt w2 (New w w2) (AstAt w2 (New w w2) d) l v :=
  h.map (fun b hn => ⟨hn.wide (Nat.le_refl _) hb.size, hb.block b hn.2⟩) (fun x u _ h => h.later hb)
theorem RowAt.wide {w w1 w2 : World} {d : Nat} {l : List Tree} {v : Value} (h : RowAt w2 (New w1 w2) (AstAt w2 (New w1 w2) d) l v) (h0 : w.heap.size ≤ w1.heap.size) : RowAt w2 (New w w2) (AstAt w2 (New w w2) d) l v :=
  h.map (fun b hn => ⟨hn.wide h0 (Nat.le_refl _), rfl⟩) (fun x u _ h => h.wide h0)
theorem RowAt.form {w : World} {S : Nat → Prop} {N : Tree → Value → Prop} {l : List Tree} {v : Value} (h : RowAt w S N l v) : ∃ a c, v = .slice a l.length c := by
  obtain ⟨a, c, e, _⟩ := h
  exact ⟨a, c, e⟩

theorem RowAt.none (w : World) (S : Nat → Prop) (N : Tree → Value → Prop) : RowAt w S N [] (.slice none 0 0) := ⟨_, 0, rfl, Nat.le_refl _, by omega, fun i x h => by simp at h⟩
theorem AstAt.ptr2 {w : World} {S : Nat → Prop} {d : Nat} {t : Tree} {v : Value} (h : AstAt w S d t v) : v = .nilIface ∨ ∃ p b, v = .iface p (.pointer (some ⟨b, 0, none⟩)) := by
  cases d with
  | zero => exact h.elim
  | succ d =>
    rcases h with ⟨_, e⟩ | ⟨p, b, cs, e, _⟩
    · exact .inl e
    · exact .inr ⟨p, b, e⟩

/-- What kid and kids answer in a region that draws its order. -/
def TabK (d : Nat) (x y : Tree) (l : List Tree) (w0 : World) (f : FuncId) (args : Array Value) (v : Value) (w : World) : Prop :=
  (f = 33 → args[1]? = some (.int .i64 0) → AstAt w (New w0 w) d x v) ∧ (f = 33 → args[1]? = some (.int .i64 1) → AstAt w (New w0 w) d y v) ∧
    (f = 34 → RowAt w (New w0 w) (AstAt w (New w0 w) d) l v)
theorem TabK.stable (d : Nat) (x y : Tree) (l : List Tree) (w0 : World) (f : FuncId) (args : Array Value) : Stable (TabK d x y l w0 f args) := by
  intro v w w' he h
  exact ⟨fun h1 h2 => (h.1 h1 h2).later he, fun h1 h2 => (h.2.1 h1 h2).later he, fun h1 => (h.2.2 h1).later he⟩
end Go.Proofs.YtlfbmpenekiigaaGreatDoor
