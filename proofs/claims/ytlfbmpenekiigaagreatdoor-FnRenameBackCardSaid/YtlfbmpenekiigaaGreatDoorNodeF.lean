/- impl.nodeOf: the node of every element; conditions: the element lies in memory, texts and numbers are within their bounds, the kids few. -/
import Derived.Test.YtlfbmpenekiigaaGreatDoorNodeD
import Derived.Test.YtlfbmpenekiigaaGreatDoorNodeI
import Derived.Test.YtlfbmpenekiigaaGreatDoorNodeE
namespace Go.Proofs.YtlfbmpenekiigaaGreatDoor
open Go.ChangeShapes Go.WideShapes Go.ChangeAt Go.RowKit
set_option linter.unusedVariables false

theorem put_moveK {w w1 wr : World} {p d : Nat} {t : Tree} {kv v0 v1 v2 v3 : Value} (h : KidsS wr (New w1 wr) d t kv) (hp : p < w1.heap.size) (h0 : w.heap.size ≤ w1.heap.size) :
    KidsS ((((wr.setCell ⟨p, 0, none⟩ v0).setCell ⟨p, 1, none⟩ v1).setCell ⟨p, 2, none⟩ v2).setCell ⟨p, 3, none⟩ v3) (New w ((((wr.setCell ⟨p, 0, none⟩ v0).setCell ⟨p, 1, none⟩ v1).setCell ⟨p, 2, none⟩ v2).setCell ⟨p, 3, none⟩ v3)) d t kv := by
  cases d with
  | zero => exact h.elim
  | succ d => exact ⟨h.1, h.2.1, h.2.2.1, put_move h.2.2.2 hp h0⟩

/-- There is no kind of none. -/
theorem kindNil : KindOf .nilIface ByteArray.empty := by
  intro w
  go_enter Tryz.func19, Tryz.ntmps19
  go_wp2_with fail
  go_ret
  exact ⟨rfl, rfl⟩

set_option maxRecDepth 100000 in
set_option maxHeartbeats 4000000 in
/-- nodeOf at a kind of nodeOfMore's. -/
theorem nodeMore (d : Nat) (w : World) (t : Tree) (v : Value) (k : ByteArray) (hko : KindOf v k) (a0 : ∀ (w : World), (Instr.typeAssert v 33 36 true).run Tryz.prog w = .ok (.tuple #[.pointer none, .bool false]) w) (a1 : ∀ (w : World), (Instr.typeAssert v 33 46 true).run Tryz.prog w = .ok (.tuple #[.pointer none, .bool false]) w) (a2 : ∀ (w : World), (Instr.typeAssert v 33 48 true).run Tryz.prog w = .ok (.tuple #[.pointer none, .bool false]) w) (a3 : ∀ (w : World), (Instr.typeAssert v 33 52 true).run Tryz.prog w = .ok (.tuple #[.pointer none, .bool false]) w) (a4 : ∀ (w : World), (Instr.typeAssert v 33 56 true).run Tryz.prog w = .ok (.tuple #[.pointer none, .bool false]) w) (a5 : ∀ (w : World), (Instr.typeAssert v 33 59 true).run Tryz.prog w = .ok (.tuple #[.pointer none, .bool false]) w) (a6 : ∀ (w : World), (Instr.typeAssert v 33 62 true).run Tryz.prog w = .ok (.tuple #[.pointer none, .bool false]) w) (a7 : ∀ (w : World), (Instr.typeAssert v 33 67 true).run Tryz.prog w = .ok (.tuple #[.pointer none, .bool false]) w) (a8 : ∀ (w : World), (Instr.typeAssert v 33 70 true).run Tryz.prog w = .ok (.tuple #[.pointer none, .bool false]) w) (a9 : ∀ (w : World), (Instr.typeAssert v 33 73 true).run Tryz.prog w = .ok (.tuple #[.pointer none, .bool false]) w) (a10 : ∀ (w : World), (Instr.typeAssert v 33 76 true).run Tryz.prog w = .ok (.tuple #[.pointer none, .bool false]) w) (a11 : ∀ (w : World), (Instr.typeAssert v 33 78 true).run Tryz.prog w = .ok (.tuple #[.pointer none, .bool false]) w) (a12 : ∀ (w : World), (Instr.typeAssert v 33 80 true).run Tryz.prog w = .ok (.tuple #[.pointer none, .bool false]) w) (a13 : ∀ (w : World), (Instr.typeAssert v 33 82 true).run Tryz.prog w = .ok (.tuple #[.pointer none, .bool false]) w) (a14 : ∀ (w : World), (Instr.typeAssert v 33 84 true).run Tryz.prog w = .ok (.tuple #[.pointer none, .bool false]) w) (a15 : ∀ (w : World), (Instr.typeAssert v 33 87 true).run Tryz.prog w = .ok (.tuple #[.pointer none, .bool false]) w) (a16 : ∀ (w : World), (Instr.typeAssert v 33 90 true).run Tryz.prog w = .ok (.tuple #[.pointer none, .bool false]) w) (a17 : ∀ (w : World), (Instr.typeAssert v 33 93 true).run Tryz.prog w = .ok (.tuple #[.pointer none, .bool false]) w) (hM : ∀ w', Below w.heap.size w w' → Calls Tryz.prog 40 #[.string k, v] w' (Noded w' d t)) :
    Calls Tryz.prog 20 #[v] w (Noded w d t) := by
  have R1 : Hid (BoxAt (w.alloc (.cells #[.string ⟨#[]⟩, .string ⟨#[]⟩, .int .i64 0, .slice none 0 0] 24)) w.heap.size Tree.nil (.slice none 0 0)) := by show BoxAt _ _ _ _; unfold BoxAt; exact heap_alloc_new w _
  have BW := Lib.hid (below1 w (.cells #[.string ⟨#[]⟩, .string ⟨#[]⟩, .int .i64 0, .slice none 0 0] 24))
  have HKO := Lib.hid hko
  have HM := Lib.hid hM
  clear hko hM
  go_enter Tryz.func20, Tryz.ntmps20
  go_wp2_with fail
  refine (HKO.out _).mono ?_
  rintro e w' ⟨rfl, rfl⟩
  go_wp2_with fail
  refine (HM.out _ BW.out).mono ?_
  rintro e wz ⟨kv, rfl, hk, hbz⟩
  obtain ⟨na, nc, rfl⟩ := hk.form
  have BZ := Lib.hid (BW.out.trans (hbz.mono BW.out.size))
  have RZ := Lib.hid (R1.out.stay (hbz.block _ R1.out.lt))
  have LZ := Lib.hid hk
  have HP := Lib.hid R1.out.lt
  clear hk hbz
  have r0 := RZ.out.c0
  have r1 := RZ.out.c1
  have r2 := RZ.out.c2
  have r3 := RZ.out.c3
  have f0 := RZ.out.free 0
  have f1 := RZ.out.free 1
  have f2 := RZ.out.free 2
  have f3 := RZ.out.free 3
  go_wp2_with fail
  have hb := RZ.out.put t (.slice na t.kids.length nc)
  have s0 := hb.c0
  have s1 := hb.c1
  have s2 := hb.c2
  have s3 := hb.c3
  refine bodyPost_ret (v := .agg #[.string t.kind, .string t.text, .int .i64 t.num, .slice na t.kids.length nc]) (by simp [results, Tryz.results20, go_sem, s0, s1, s2, s3]) rfl ⟨_, rfl, put_moveK LZ.out HP.out BW.out.size, below_put BZ.out (Nat.le_refl _) _ _ _ _⟩

set_option maxRecDepth 100000 in
set_option maxHeartbeats 4000000 in
/-- The node of no element. -/
theorem nodeNil (d : Nat) (w : World) (t : Tree) (ht : t = Tree.nil) (hsz : All Sized (d + 1) t) : Calls Tryz.prog 40 #[.string ByteArray.empty, .nilIface] w (Noded w (d + 1) t) := by
  subst ht
  have R1 : Hid (BoxAt (w.alloc (.cells #[.string ⟨#[]⟩, .string ⟨#[]⟩, .int .i64 0, .slice none 0 0] 24)) w.heap.size Tree.nil (.slice none 0 0)) := by show BoxAt _ _ _ _; unfold BoxAt; exact heap_alloc_new w _
  have BW := Lib.hid (below1 w (.cells #[.string ⟨#[]⟩, .string ⟨#[]⟩, .int .i64 0, .slice none 0 0] 24))
  have HSZ := Lib.hid hsz
  clear hsz
  have a0 : ∀ (w : World), (Instr.typeAssert .nilIface 33 101 true).run Tryz.prog w = .ok (.tuple #[.pointer none, .bool false]) w := fun w => by kernel_rfl
  have a1 : ∀ (w : World), (Instr.typeAssert .nilIface 33 104 true).run Tryz.prog w = .ok (.tuple #[.pointer none, .bool false]) w := fun w => by kernel_rfl
  have a2 : ∀ (w : World), (Instr.typeAssert .nilIface 33 107 true).run Tryz.prog w = .ok (.tuple #[.pointer none, .bool false]) w := fun w => by kernel_rfl
  have a3 : ∀ (w : World), (Instr.typeAssert .nilIface 33 110 true).run Tryz.prog w = .ok (.tuple #[.pointer none, .bool false]) w := fun w => by kernel_rfl
  have a4 : ∀ (w : World), (Instr.typeAssert .nilIface 33 113 true).run Tryz.prog w = .ok (.tuple #[.pointer none, .bool false]) w := fun w => by kernel_rfl
  have a5 : ∀ (w : World), (Instr.typeAssert .nilIface 33 116 true).run Tryz.prog w = .ok (.tuple #[.pointer none, .bool false]) w := fun w => by kernel_rfl
  have a6 : ∀ (w : World), (Instr.typeAssert .nilIface 33 119 true).run Tryz.prog w = .ok (.tuple #[.pointer none, .bool false]) w := fun w => by kernel_rfl
  have a7 : ∀ (w : World), (Instr.typeAssert .nilIface 33 122 true).run Tryz.prog w = .ok (.tuple #[.pointer none, .bool false]) w := fun w => by kernel_rfl
  have a8 : ∀ (w : World), (Instr.typeAssert .nilIface 33 126 true).run Tryz.prog w = .ok (.tuple #[.pointer none, .bool false]) w := fun w => by kernel_rfl
  have a9 : ∀ (w : World), (Instr.typeAssert .nilIface 33 129 true).run Tryz.prog w = .ok (.tuple #[.pointer none, .bool false]) w := fun w => by kernel_rfl
  have a10 : ∀ (w : World), (Instr.typeAssert .nilIface 33 132 true).run Tryz.prog w = .ok (.tuple #[.pointer none, .bool false]) w := fun w => by kernel_rfl
  have a11 : ∀ (w : World), (Instr.typeAssert .nilIface 33 135 true).run Tryz.prog w = .ok (.tuple #[.pointer none, .bool false]) w := fun w => by kernel_rfl
  have a12 : ∀ (w : World), (Instr.typeAssert .nilIface 33 138 true).run Tryz.prog w = .ok (.tuple #[.pointer none, .bool false]) w := fun w => by kernel_rfl
  have a13 : ∀ (w : World), (Instr.typeAssert .nilIface 33 141 true).run Tryz.prog w = .ok (.tuple #[.pointer none, .bool false]) w := fun w => by kernel_rfl
  have a14 : ∀ (w : World), (Instr.typeAssert .nilIface 33 144 true).run Tryz.prog w = .ok (.tuple #[.pointer none, .bool false]) w := fun w => by kernel_rfl
  have a15 : ∀ (w : World), (Instr.typeAssert .nilIface 33 147 true).run Tryz.prog w = .ok (.tuple #[.pointer none, .bool false]) w := fun w => by kernel_rfl
  have a16 : ∀ (w : World), (Instr.typeAssert .nilIface 33 150 true).run Tryz.prog w = .ok (.tuple #[.pointer none, .bool false]) w := fun w => by kernel_rfl
  have r0 := R1.out.c0
  have r1 := R1.out.c1
  have r2 := R1.out.c2
  have r3 := R1.out.c3
  have f0 := R1.out.free 0
  have f1 := R1.out.free 1
  have f2 := R1.out.free 2
  have f3 := R1.out.free 3
  go_enter Tryz.func40, Tryz.ntmps40
  go_wp2_with fail
  refine bodyPost_ret (v := .agg #[.string ByteArray.empty, .string ⟨#[]⟩, .int .i64 0, .slice none 0 0]) (by simp [results, Tryz.results40, go_sem]) rfl ⟨_, rfl, KidsS.mk HSZ.out.1 ⟨none, 0, rfl, Nat.le_refl _, by omega, fun i x hx => by simp [Tree.nil] at hx⟩, below1 w _⟩

theorem pair_eqN {a b : ByteArray} {p q : Nat} {e f : List Value} (h : (a, p, e) = (b, q, f)) : a = b ∧ p = q ∧ e = f := by
  injection h with h1 h2
  injection h2 with h2 h3
  exact ⟨h1, h2, h3⟩
theorem pair_eqN2 {a b : ByteArray} {p q : Nat} (h : (a, p) = (b, q)) : a = b ∧ p = q := by
  injection h with h1 h2
  exact ⟨h1, h2⟩

set_option maxRecDepth 100000 in
set_option maxHeartbeats 4000000 in
theorem nodeOfC : ∀ d, NodeOf d := by
  intro d
  induction d with
  | zero => intro w S t v h; exact h.elim
  | succ d IH =>
    intro w S t v hA low hsz
    rcases hA with ⟨ht, rfl⟩ | ⟨p, b, cs, rfl, hb, hc, hf⟩
    · exact nodeMore (d + 1) w t _ _ kindNil (fun w => by kernel_rfl) (fun w => by kernel_rfl) (fun w => by kernel_rfl) (fun w => by kernel_rfl) (fun w => by kernel_rfl) (fun w => by kernel_rfl) (fun w => by kernel_rfl) (fun w => by kernel_rfl) (fun w => by kernel_rfl) (fun w => by kernel_rfl) (fun w => by kernel_rfl) (fun w => by kernel_rfl) (fun w => by kernel_rfl) (fun w => by kernel_rfl) (fun w => by kernel_rfl) (fun w => by kernel_rfl) (fun w => by kernel_rfl) (fun w => by kernel_rfl) (fun w' hw => nodeNil d w' t ht hsz)
    · unfold Form at hf
      rcases hf with h | h | h | h | h | h | h | h | h | h | h
      · obtain ⟨ex, hm, hn, hl, rfl⟩ := h
        rcases List.mem_cons.1 hm with hm | hm
        · obtain ⟨hk, rfl, rfl⟩ := pair_eqN hm
          exact nodeName d IH w S t b hk hn hl  low hsz (hc 0 _ rfl)
        · skip
          rcases List.mem_cons.1 hm with hm | hm
          · obtain ⟨hk, rfl, rfl⟩ := pair_eqN hm
            exact nodeBuiltinType d IH w S t b hk hn hl  low hsz (hc 0 _ rfl)
          · skip
            rcases List.mem_cons.1 hm with hm | hm
            · obtain ⟨hk, rfl, rfl⟩ := pair_eqN hm
              exact nodeOperator d IH w S t b hk hn hl  low hsz (hc 0 _ rfl)
            · skip
              cases hm
      · obtain ⟨hk, rfl, ht, hl, rfl⟩ := h
        exact nodeMore (d + 1) w t _ kUnnamedType (kindUnnamedType (some ⟨b, 0, none⟩)) (fun w => by kernel_rfl) (fun w => by kernel_rfl) (fun w => by kernel_rfl) (fun w => by kernel_rfl) (fun w => by kernel_rfl) (fun w => by kernel_rfl) (fun w => by kernel_rfl) (fun w => by kernel_rfl) (fun w => by kernel_rfl) (fun w => by kernel_rfl) (fun w => by kernel_rfl) (fun w => by kernel_rfl) (fun w => by kernel_rfl) (fun w => by kernel_rfl) (fun w => by kernel_rfl) (fun w => by kernel_rfl) (fun w => by kernel_rfl) (fun w => by kernel_rfl) (fun w' hw => nodeUnnamedType d IH w' (In0 w') t b hk ht hl  (fun c h => h) hsz (cells_below hw _ _ _ (hc 0 _ rfl)))
      · obtain ⟨hk, rfl, hn, hl, v0, rfl, hv0⟩ := h
        obtain ⟨la, lc, rfl, _, hlc, _⟩ := hv0
        exact nodeQualifier d IH w S t b hk la lc hn hl  hlc low hsz (hc 0 _ rfl) (hc 1 _ rfl)
      · obtain ⟨ex, x, u, hm, ht, hn, hl, hx, hN, rfl⟩ := h
        rcases List.mem_cons.1 hm with hm | hm
        · obtain ⟨hk, rfl, rfl⟩ := pair_eqN hm
          exact nodeConstructor d IH w S t b hk x u ht hn hl hN hx low hsz (hc 0 _ rfl)
        · skip
          rcases List.mem_cons.1 hm with hm | hm
          · obtain ⟨hk, rfl, rfl⟩ := pair_eqN hm
            exact nodeDestructor d IH w S t b hk x u ht hn hl hN hx low hsz (hc 0 _ rfl)
          · skip
            rcases List.mem_cons.1 hm with hm | hm
            · obtain ⟨hk, rfl, rfl⟩ := pair_eqN hm
              exact nodePointerType d IH w S t b hk x u ht hn hl hN hx low hsz (hc 0 _ rfl)
            · skip
              rcases List.mem_cons.1 hm with hm | hm
              · obtain ⟨hk, rfl, rfl⟩ := pair_eqN hm
                exact nodeReferenceType d IH w S t b hk x u ht hn hl hN hx low hsz (hc 0 _ rfl)
              · skip
                rcases List.mem_cons.1 hm with hm | hm
                · obtain ⟨hk, rfl, rfl⟩ := pair_eqN hm
                  exact nodeRvalueReferenceType d IH w S t b hk x u ht hn hl hN hx low hsz (hc 0 _ rfl)
                · skip
                  rcases List.mem_cons.1 hm with hm | hm
                  · obtain ⟨hk, rfl, rfl⟩ := pair_eqN hm
                    exact nodeComplexType d IH w S t b hk x u ht hn hl hN hx low hsz (hc 0 _ rfl)
                  · skip
                    rcases List.mem_cons.1 hm with hm | hm
                    · obtain ⟨hk, rfl, rfl⟩ := pair_eqN hm
                      exact nodeImaginaryType d IH w S t b hk x u ht hn hl hN hx low hsz (hc 0 _ rfl)
                    · skip
                      rcases List.mem_cons.1 hm with hm | hm
                      · obtain ⟨hk, rfl, rfl⟩ := pair_eqN hm
                        exact nodeMore (d + 1) w t _ kCast (kindCast (some ⟨b, 0, none⟩)) (fun w => by kernel_rfl) (fun w => by kernel_rfl) (fun w => by kernel_rfl) (fun w => by kernel_rfl) (fun w => by kernel_rfl) (fun w => by kernel_rfl) (fun w => by kernel_rfl) (fun w => by kernel_rfl) (fun w => by kernel_rfl) (fun w => by kernel_rfl) (fun w => by kernel_rfl) (fun w => by kernel_rfl) (fun w => by kernel_rfl) (fun w => by kernel_rfl) (fun w => by kernel_rfl) (fun w => by kernel_rfl) (fun w => by kernel_rfl) (fun w => by kernel_rfl) (fun w' hw => nodeCast d IH w' (In0 w') t b hk x u ht hn hl (hN.all low hw) hx (fun c h => h) hsz (cells_below hw _ _ _ (hc 0 _ rfl)))
                      · skip
                        cases hm
      · obtain ⟨x, u, hk, rfl, hn, hl, hx, hN, rfl⟩ := h
        exact nodeMore (d + 1) w t _ kLiteral (kindLiteral (some ⟨b, 0, none⟩)) (fun w => by kernel_rfl) (fun w => by kernel_rfl) (fun w => by kernel_rfl) (fun w => by kernel_rfl) (fun w => by kernel_rfl) (fun w => by kernel_rfl) (fun w => by kernel_rfl) (fun w => by kernel_rfl) (fun w => by kernel_rfl) (fun w => by kernel_rfl) (fun w => by kernel_rfl) (fun w => by kernel_rfl) (fun w => by kernel_rfl) (fun w => by kernel_rfl) (fun w => by kernel_rfl) (fun w => by kernel_rfl) (fun w => by kernel_rfl) (fun w => by kernel_rfl) (fun w' hw => nodeLiteral d IH w' (In0 w') t b hk x u hn hl (hN.all low hw) hx (fun c h => h) hsz (cells_below hw _ _ _ (hc 0 _ rfl)) (cells_below hw _ _ _ (hc 1 _ rfl)) (cells_below hw _ _ _ (hc 2 _ rfl)))
      · obtain ⟨ex, x, y, u, v0, hm, ht, hn, hl, hx, hy, hN, hM, rfl⟩ := h
        rcases List.mem_cons.1 hm with hm | hm
        · obtain ⟨hk, rfl, rfl⟩ := pair_eqN hm
          exact nodeQualified d IH w S t b hk x y u v0 ht hn hl hN hx hM hy low hsz (hc 0 _ rfl) (hc 1 _ rfl) (hc 2 _ rfl)
        · skip
          rcases List.mem_cons.1 hm with hm | hm
          · obtain ⟨hk, rfl, rfl⟩ := pair_eqN hm
            exact nodeTyped d IH w S t b hk x y u v0 ht hn hl hN hx hM hy low hsz (hc 0 _ rfl) (hc 1 _ rfl)
          · skip
            rcases List.mem_cons.1 hm with hm | hm
            · obtain ⟨hk, rfl, rfl⟩ := pair_eqN hm
              exact nodeTypeWithQualifiers d IH w S t b hk x y u v0 ht hn hl hN hx hM hy low hsz (hc 0 _ rfl) (hc 1 _ rfl)
            · skip
              rcases List.mem_cons.1 hm with hm | hm
              · obtain ⟨hk, rfl, rfl⟩ := pair_eqN hm
                exact nodeMore (d + 1) w t _ kArrayType (kindArrayType (some ⟨b, 0, none⟩)) (fun w => by kernel_rfl) (fun w => by kernel_rfl) (fun w => by kernel_rfl) (fun w => by kernel_rfl) (fun w => by kernel_rfl) (fun w => by kernel_rfl) (fun w => by kernel_rfl) (fun w => by kernel_rfl) (fun w => by kernel_rfl) (fun w => by kernel_rfl) (fun w => by kernel_rfl) (fun w => by kernel_rfl) (fun w => by kernel_rfl) (fun w => by kernel_rfl) (fun w => by kernel_rfl) (fun w => by kernel_rfl) (fun w => by kernel_rfl) (fun w => by kernel_rfl) (fun w' hw => nodeArrayType d IH w' (In0 w') t b hk x y u v0 ht hn hl (hN.all low hw) hx (hM.all low hw) hy (fun c h => h) hsz (cells_below hw _ _ _ (hc 0 _ rfl)) (cells_below hw _ _ _ (hc 1 _ rfl)))
              · skip
                rcases List.mem_cons.1 hm with hm | hm
                · obtain ⟨hk, rfl, rfl⟩ := pair_eqN hm
                  exact nodeMore (d + 1) w t _ kVectorType (kindVectorType (some ⟨b, 0, none⟩)) (fun w => by kernel_rfl) (fun w => by kernel_rfl) (fun w => by kernel_rfl) (fun w => by kernel_rfl) (fun w => by kernel_rfl) (fun w => by kernel_rfl) (fun w => by kernel_rfl) (fun w => by kernel_rfl) (fun w => by kernel_rfl) (fun w => by kernel_rfl) (fun w => by kernel_rfl) (fun w => by kernel_rfl) (fun w => by kernel_rfl) (fun w => by kernel_rfl) (fun w => by kernel_rfl) (fun w => by kernel_rfl) (fun w => by kernel_rfl) (fun w => by kernel_rfl) (fun w' hw => nodeVectorType d IH w' (In0 w') t b hk x y u v0 ht hn hl (hN.all low hw) hx (hM.all low hw) hy (fun c h => h) hsz (cells_below hw _ _ _ (hc 0 _ rfl)) (cells_below hw _ _ _ (hc 1 _ rfl)))
                · skip
                  rcases List.mem_cons.1 hm with hm | hm
                  · obtain ⟨hk, rfl, rfl⟩ := pair_eqN hm
                    exact nodeMore (d + 1) w t _ kPtrMem (kindPtrMem (some ⟨b, 0, none⟩)) (fun w => by kernel_rfl) (fun w => by kernel_rfl) (fun w => by kernel_rfl) (fun w => by kernel_rfl) (fun w => by kernel_rfl) (fun w => by kernel_rfl) (fun w => by kernel_rfl) (fun w => by kernel_rfl) (fun w => by kernel_rfl) (fun w => by kernel_rfl) (fun w => by kernel_rfl) (fun w => by kernel_rfl) (fun w => by kernel_rfl) (fun w => by kernel_rfl) (fun w => by kernel_rfl) (fun w => by kernel_rfl) (fun w => by kernel_rfl) (fun w => by kernel_rfl) (fun w' hw => nodePtrMem d IH w' (In0 w') t b hk x y u v0 ht hn hl (hN.all low hw) hx (hM.all low hw) hy (fun c h => h) hsz (cells_below hw _ _ _ (hc 0 _ rfl)) (cells_below hw _ _ _ (hc 1 _ rfl)))
                  · skip
                    rcases List.mem_cons.1 hm with hm | hm
                    · obtain ⟨hk, rfl, rfl⟩ := pair_eqN hm
                      exact nodeMore (d + 1) w t _ kVendorQualifier (kindVendorQualifier (some ⟨b, 0, none⟩)) (fun w => by kernel_rfl) (fun w => by kernel_rfl) (fun w => by kernel_rfl) (fun w => by kernel_rfl) (fun w => by kernel_rfl) (fun w => by kernel_rfl) (fun w => by kernel_rfl) (fun w => by kernel_rfl) (fun w => by kernel_rfl) (fun w => by kernel_rfl) (fun w => by kernel_rfl) (fun w => by kernel_rfl) (fun w => by kernel_rfl) (fun w => by kernel_rfl) (fun w => by kernel_rfl) (fun w => by kernel_rfl) (fun w => by kernel_rfl) (fun w => by kernel_rfl) (fun w' hw => nodeVendorQualifier d IH w' (In0 w') t b hk x y u v0 ht hn hl (hN.all low hw) hx (hM.all low hw) hy (fun c h => h) hsz (cells_below hw _ _ _ (hc 0 _ rfl)) (cells_below hw _ _ _ (hc 1 _ rfl)))
                    · skip
                      rcases List.mem_cons.1 hm with hm | hm
                      · obtain ⟨hk, rfl, rfl⟩ := pair_eqN hm
                        exact nodeMore (d + 1) w t _ kTaggedName (kindTaggedName (some ⟨b, 0, none⟩)) (fun w => by kernel_rfl) (fun w => by kernel_rfl) (fun w => by kernel_rfl) (fun w => by kernel_rfl) (fun w => by kernel_rfl) (fun w => by kernel_rfl) (fun w => by kernel_rfl) (fun w => by kernel_rfl) (fun w => by kernel_rfl) (fun w => by kernel_rfl) (fun w => by kernel_rfl) (fun w => by kernel_rfl) (fun w => by kernel_rfl) (fun w => by kernel_rfl) (fun w => by kernel_rfl) (fun w => by kernel_rfl) (fun w => by kernel_rfl) (fun w => by kernel_rfl) (fun w' hw => nodeTaggedName d IH w' (In0 w') t b hk x y u v0 ht hn hl (hN.all low hw) hx (hM.all low hw) hy (fun c h => h) hsz (cells_below hw _ _ _ (hc 0 _ rfl)) (cells_below hw _ _ _ (hc 1 _ rfl)))
                      · skip
                        cases hm
      · obtain ⟨x, y, u, v0, hk, rfl, hn, hl, hx, hN, hM, rfl⟩ := h
        exact nodeMethodWithQualifiers d IH w S t b hk x y u v0 hn hl hN hx hM low hsz (hc 0 _ rfl) (hc 1 _ rfl) (hc 2 _ rfl)
      · obtain ⟨v0, hm, ht, hn, hx, hR, rfl⟩ := h
        obtain ⟨la, lc, rfl⟩ := hR.form
        rcases List.mem_cons.1 hm with hm | hm
        · obtain ⟨hk, rfl⟩ := pair_eqN2 hm
          exact nodeQualifiers d IH w S t b hk la lc ht hn  hR low hsz (hc 0 _ rfl)
        · skip
          rcases List.mem_cons.1 hm with hm | hm
          · obtain ⟨hk, rfl⟩ := pair_eqN2 hm
            exact nodeMore (d + 1) w t _ kArgumentPack (kindArgumentPack (some ⟨b, 0, none⟩)) (fun w => by kernel_rfl) (fun w => by kernel_rfl) (fun w => by kernel_rfl) (fun w => by kernel_rfl) (fun w => by kernel_rfl) (fun w => by kernel_rfl) (fun w => by kernel_rfl) (fun w => by kernel_rfl) (fun w => by kernel_rfl) (fun w => by kernel_rfl) (fun w => by kernel_rfl) (fun w => by kernel_rfl) (fun w => by kernel_rfl) (fun w => by kernel_rfl) (fun w => by kernel_rfl) (fun w => by kernel_rfl) (fun w => by kernel_rfl) (fun w => by kernel_rfl) (fun w' hw => nodeArgumentPack d IH w' (In0 w') t b hk la lc ht hn  (hR.all low hw) (fun c h => h) hsz (cells_below hw _ _ _ (hc 0 _ rfl)))
          · skip
            cases hm
      · obtain ⟨v0, v1, hk, rfl, ht, hx, hR0, hR, rfl⟩ := h
        obtain ⟨la, lc, rfl⟩ := hR.form
        exact nodeMore (d + 1) w t _ kClosure (kindClosure (some ⟨b, 0, none⟩)) (fun w => by kernel_rfl) (fun w => by kernel_rfl) (fun w => by kernel_rfl) (fun w => by kernel_rfl) (fun w => by kernel_rfl) (fun w => by kernel_rfl) (fun w => by kernel_rfl) (fun w => by kernel_rfl) (fun w => by kernel_rfl) (fun w => by kernel_rfl) (fun w => by kernel_rfl) (fun w => by kernel_rfl) (fun w => by kernel_rfl) (fun w => by kernel_rfl) (fun w => by kernel_rfl) (fun w => by kernel_rfl) (fun w => by kernel_rfl) (fun w => by kernel_rfl) (fun w' hw => nodeClosure d IH w' (In0 w') t b hk la lc v0 ht  (hR.all low hw) (fun c h => h) hsz (cells_below hw _ _ _ (hc 0 _ rfl)) (cells_below hw _ _ _ (hc 1 _ rfl)) (cells_below hw _ _ _ (hc 2 _ rfl)) (cells_below hw _ _ _ (hc 3 _ rfl)) (cells_below hw _ _ _ (hc 4 _ rfl)))
      · obtain ⟨x, l, u, v0, hk, rfl, ht, hn, hl, hx, hy, hN, hR, rfl⟩ := h
        obtain ⟨la, lc, rfl⟩ := hR.form
        exact nodeTemplate d IH w S t b hk x l u la lc ht hn hl hN hR low hsz (hc 0 _ rfl) (hc 1 _ rfl)
      · obtain ⟨x, l, u, v0, hk, rfl, ht, hn, hl, hy, hN, hR, rfl⟩ := h
        obtain ⟨la, lc, rfl⟩ := hR.form
        exact nodeFunctionType d IH w S t b hk x l u la lc ht hn hl hN hR low hsz (hc 0 _ rfl) (hc 1 _ rfl) (hc 2 _ rfl)
end Go.Proofs.YtlfbmpenekiigaaGreatDoor
