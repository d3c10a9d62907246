/- Copy of every element, with the closures of Rename; conditions: the element lies in memory, it has no qualifier of a vendor and few kids. -/
import Derived.Test.YtlfbmpenekiigaaGreatDoorCopyB
import Derived.Test.YtlfbmpenekiigaaGreatDoorCopyC
import Derived.Test.YtlfbmpenekiigaaGreatDoorCopyE
import Derived.Test.YtlfbmpenekiigaaGreatDoorCopyF
namespace Go.Proofs.YtlfbmpenekiigaaGreatDoor
open Go.ChangeShapes Go.WideShapes Go.ChangeAt Go.RowKit
set_option linter.unusedVariables false

theorem Job.kid {w : World} {S : Nat → Prop} {d : Nat} {t x : Tree} {v u : Value} (j : Job w S (d + 1) t v) (hx : x ∈ t.kids) (h : AstAt w S d x u) (hk : x.kind ≠ ByteArray.empty) : Job w S d x u := ⟨h, hk, j.nov.2 x hx, j.low⟩
theorem pair_eq {a b : ByteArray} {p q : Nat} {e f : List Value} (h : (a, p, e) = (b, q, f)) : a = b ∧ p = q ∧ e = f := by
  injection h with h1 h2
  injection h2 with h2 h3
  exact ⟨h1, h2, h3⟩
theorem pair_eq2 {a b : ByteArray} {p q : Nat} (h : (a, p) = (b, q)) : a = b ∧ p = q := by
  injection h with h1 h2
  exact ⟨h1, h2⟩

set_option maxRecDepth 100000 in
set_option maxHeartbeats 4000000 in
theorem copyAllC : ∀ d, CopyAll d := by
  intro d
  induction d with
  | zero => intro w S t v f g pf pt ps j; exact j.ast.elim
  | succ d IH =>
    intro w S t v f g pf pt ps j he p b F e hT
    have low := j.low
    rcases j.ast with ⟨rfl, _⟩ | ⟨p', b', cs, e', hb, hc, hf⟩
    · exact (j.kind rfl).elim
    · rw [e'] at e
      injection e with e1 e2
      injection e2 with e2
      injection e2 with e2
      injection e2 with e2 _
      subst e1
      subst e2
      rw [← fnV, ← skV]
      unfold Form at hf
      rcases hf with h | h | h | h | h | h | h | h | h | h | h
      · obtain ⟨ex, hm, hn, hl, rfl⟩ := h
        rcases List.mem_cons.1 hm with hm | hm
        · obtain ⟨hk, rfl, rfl⟩ := pair_eq hm
          obtain rfl := hT.one turnsName w
          exact copyName f g pf pt ps d IH w S t b' hk hn hl hb low he (hc 0 _ rfl)
        · skip
          rcases List.mem_cons.1 hm with hm | hm
          · obtain ⟨hk, rfl, rfl⟩ := pair_eq hm
            obtain rfl := hT.one turnsBuiltinType w
            exact copyBuiltinType f g pf pt ps d IH w S t b' hk hl hb low he
          · skip
            rcases List.mem_cons.1 hm with hm | hm
            · obtain ⟨hk, rfl, rfl⟩ := pair_eq hm
              obtain rfl := hT.one turnsOperator w
              exact copyOperator f g pf pt ps d IH w S t b' hk hl hb low he
            · skip
              cases hm
      · obtain ⟨hk, rfl, ht, hl, rfl⟩ := h
        obtain rfl := hT.one turnsUnnamedType w
        exact copyUnnamedType f g pf pt ps d IH w S t b' hk hl hb low he
      · obtain ⟨hk, rfl, hn, hl, v0, rfl, hv0⟩ := h
        obtain ⟨la, lc, rfl, _⟩ := hv0
        obtain rfl := hT.one turnsQualifier w
        exact copyQualifier f g pf pt ps d IH w S t b' la lc hk hl hb low he (hc 0 _ rfl) (hc 1 _ rfl)
      · obtain ⟨ex, x, u, hm, ht, hn, hl, hx, hN, rfl⟩ := h
        have jx := j.kid (by rw [hl]; simp) hN hx
        rcases List.mem_cons.1 hm with hm | hm
        · obtain ⟨hk, rfl, rfl⟩ := pair_eq hm
          obtain rfl := hT.one turnsConstructor w
          exact copyConstructor f g pf pt ps d IH w S t b' x u hk ht hn hl jx hb low he (hc 0 _ rfl) (hc 1 _ rfl)
        · skip
          rcases List.mem_cons.1 hm with hm | hm
          · obtain ⟨hk, rfl, rfl⟩ := pair_eq hm
            obtain rfl := hT.one turnsDestructor w
            exact copyDestructor f g pf pt ps d IH w S t b' x u hk ht hn hl jx hb low he (hc 0 _ rfl)
          · skip
            rcases List.mem_cons.1 hm with hm | hm
            · obtain ⟨hk, rfl, rfl⟩ := pair_eq hm
              obtain rfl := hT.one turnsPointerType w
              exact copyPointerType f g pf pt ps d IH w S t b' x u hk ht hn hl jx hb low he (hc 0 _ rfl)
            · skip
              rcases List.mem_cons.1 hm with hm | hm
              · obtain ⟨hk, rfl, rfl⟩ := pair_eq hm
                obtain rfl := hT.one turnsReferenceType w
                exact copyReferenceType f g pf pt ps d IH w S t b' x u hk ht hn hl jx hb low he (hc 0 _ rfl)
              · skip
                rcases List.mem_cons.1 hm with hm | hm
                · obtain ⟨hk, rfl, rfl⟩ := pair_eq hm
                  obtain rfl := hT.one turnsRvalueReferenceType w
                  exact copyRvalueReferenceType f g pf pt ps d IH w S t b' x u hk ht hn hl jx hb low he (hc 0 _ rfl)
                · skip
                  rcases List.mem_cons.1 hm with hm | hm
                  · obtain ⟨hk, rfl, rfl⟩ := pair_eq hm
                    obtain rfl := hT.one turnsComplexType w
                    exact copyComplexType f g pf pt ps d IH w S t b' x u hk ht hn hl jx hb low he (hc 0 _ rfl)
                  · skip
                    rcases List.mem_cons.1 hm with hm | hm
                    · obtain ⟨hk, rfl, rfl⟩ := pair_eq hm
                      obtain rfl := hT.one turnsImaginaryType w
                      exact copyImaginaryType f g pf pt ps d IH w S t b' x u hk ht hn hl jx hb low he (hc 0 _ rfl)
                    · skip
                      rcases List.mem_cons.1 hm with hm | hm
                      · obtain ⟨hk, rfl, rfl⟩ := pair_eq hm
                        obtain rfl := hT.one turnsCast w
                        exact copyCast f g pf pt ps d IH w S t b' x u hk ht hn hl jx hb low he (hc 0 _ rfl)
                      · skip
                        cases hm
      · obtain ⟨x, u, hk, rfl, hn, hl, hx, hN, rfl⟩ := h
        have jx := j.kid (by rw [hl]; simp) hN hx
        obtain rfl := hT.one turnsLiteral w
        exact copyLiteral f g pf pt ps d IH w S t b' x u hk hn hl jx hb low he (hc 0 _ rfl) (hc 1 _ rfl) (hc 2 _ rfl)
      · obtain ⟨ex, x, y, u, v0, hm, ht, hn, hl, hx, hy, hN, hM, rfl⟩ := h
        have jx := j.kid (by rw [hl]; simp) hN hx
        have jy := j.kid (by rw [hl]; simp) hM hy
        rcases List.mem_cons.1 hm with hm | hm
        · obtain ⟨hk, rfl, rfl⟩ := pair_eq hm
          obtain rfl := hT.one turnsQualified w
          exact copyQualified f g pf pt ps d IH w S t b' x y u v0 hk ht hn hl jx jy hb low he (hc 0 _ rfl) (hc 1 _ rfl) (hc 2 _ rfl)
        · skip
          rcases List.mem_cons.1 hm with hm | hm
          · obtain ⟨hk, rfl, rfl⟩ := pair_eq hm
            obtain rfl := hT.one turnsTyped w
            exact copyTyped f g pf pt ps d IH w S t b' x y u v0 hk ht hn hl jx jy hb low he (hc 0 _ rfl) (hc 1 _ rfl)
          · skip
            rcases List.mem_cons.1 hm with hm | hm
            · obtain ⟨hk, rfl, rfl⟩ := pair_eq hm
              obtain rfl := hT.one turnsTypeWithQualifiers w
              exact copyTypeWithQualifiers f g pf pt ps d IH w S t b' x y u v0 hk ht hn hl jx jy hb low he (hc 0 _ rfl) (hc 1 _ rfl)
            · skip
              rcases List.mem_cons.1 hm with hm | hm
              · obtain ⟨hk, rfl, rfl⟩ := pair_eq hm
                obtain rfl := hT.one turnsArrayType w
                exact copyArrayType f g pf pt ps d IH w S t b' x y u v0 hk ht hn hl jx jy hb low he (hc 0 _ rfl) (hc 1 _ rfl)
              · skip
                rcases List.mem_cons.1 hm with hm | hm
                · obtain ⟨hk, rfl, rfl⟩ := pair_eq hm
                  obtain rfl := hT.one turnsVectorType w
                  exact copyVectorType f g pf pt ps d IH w S t b' x y u v0 hk ht hn hl jx jy hb low he (hc 0 _ rfl) (hc 1 _ rfl)
                · skip
                  rcases List.mem_cons.1 hm with hm | hm
                  · obtain ⟨hk, rfl, rfl⟩ := pair_eq hm
                    obtain rfl := hT.one turnsPtrMem w
                    exact copyPtrMem f g pf pt ps d IH w S t b' x y u v0 hk ht hn hl jx jy hb low he (hc 0 _ rfl) (hc 1 _ rfl)
                  · skip
                    rcases List.mem_cons.1 hm with hm | hm
                    · obtain ⟨hk, rfl, rfl⟩ := pair_eq hm
                      exact (j.nov.1.1 hk).elim
                    · skip
                      rcases List.mem_cons.1 hm with hm | hm
                      · obtain ⟨hk, rfl, rfl⟩ := pair_eq hm
                        obtain rfl := hT.one turnsTaggedName w
                        exact copyTaggedName f g pf pt ps d IH w S t b' x y u v0 hk ht hn hl jx jy hb low he (hc 0 _ rfl) (hc 1 _ rfl)
                      · skip
                        cases hm
      · obtain ⟨x, y, u, v0, hk, rfl, hn, hl, hx, hN, hM, rfl⟩ := h
        have jx := j.kid (by rw [hl]; simp) hN hx
        have jy : Job w S d y v0 ∨ y = Tree.nil ∧ v0 = .nilIface ∧ 0 < d := hM.some_or.imp (fun hy => j.kid (by rw [hl]; simp) hM hy) id
        obtain rfl := hT.one turnsMethodWithQualifiers w
        exact copyMethodWithQualifiers f g pf pt ps d IH w S t b' x y u v0 hk hn hl jx jy hb low he (hc 0 _ rfl) (hc 1 _ rfl) (hc 2 _ rfl)
      · obtain ⟨v0, hm, ht, hn, hx, hR, rfl⟩ := h
        obtain ⟨la, lc, rfl⟩ := hR.form
        rcases List.mem_cons.1 hm with hm | hm
        · obtain ⟨hk, rfl⟩ := pair_eq2 hm
          obtain rfl := hT.one turnsQualifiers w
          exact copyQualifiers f g pf pt ps d IH w S t b' la lc hk ht hn hx j.nov.2 hR j.nov.1.2 hb low he (hc 0 _ rfl)
        · skip
          rcases List.mem_cons.1 hm with hm | hm
          · obtain ⟨hk, rfl⟩ := pair_eq2 hm
            obtain rfl := hT.one turnsArgumentPack w
            exact copyArgumentPack f g pf pt ps d IH w S t b' la lc hk ht hn hx j.nov.2 hR j.nov.1.2 hb low he (hc 0 _ rfl)
          · skip
            cases hm
      · obtain ⟨v0, v1, hk, rfl, ht, hx, hR0, hR, rfl⟩ := h
        obtain ⟨la0, lc0, rfl⟩ := hR0.form
        obtain ⟨la, lc, rfl⟩ := hR.form
        obtain rfl := hT.one turnsClosure w
        exact copyClosure f g pf pt ps d IH w S t b' la0 la lc0 lc hk ht hx j.nov.2 hR j.nov.1.2 hb low he (hc 0 _ rfl) (hc 1 _ rfl) (hc 2 _ rfl) (hc 3 _ rfl) (hc 4 _ rfl)
      · obtain ⟨x, l, u, v0, hk, rfl, ht, hn, hl, hx, hy, hN, hR, rfl⟩ := h
        have jx := j.kid (by rw [hl]; simp) hN hx
        obtain ⟨la, lc, rfl⟩ := hR.form
        obtain rfl := hT.one turnsTemplate w
        exact copyTemplate f g pf pt ps d IH w S t b' x l u la lc hk ht hn hl hy (fun y hy => j.nov.2 y (by rw [hl]; simp [hy])) hR (by have := j.nov.1.2; rw [hl] at this; simp at this; omega) jx hb low he (hc 0 _ rfl) (hc 1 _ rfl)
      · obtain ⟨x, l, u, v0, hk, rfl, ht, hn, hl, hy, hN, hR, rfl⟩ := h
        have jx : Job w S d x u ∨ x = Tree.nil ∧ u = .nilIface ∧ 0 < d := hN.some_or.imp (fun hx => j.kid (by rw [hl]; simp) hN hx) id
        obtain ⟨la, lc, rfl⟩ := hR.form
        obtain rfl := hT.one turnsFunctionType w
        exact copyFunctionType f g pf pt ps d IH w S t b' x l u la lc hk ht hn hl hy (fun y hy => j.nov.2 y (by rw [hl]; simp [hy])) hR (by have := j.nov.1.2; rw [hl] at this; simp at this; omega) jx hb low he (hc 0 _ rfl) (hc 1 _ rfl) (hc 2 _ rfl)
end Go.Proofs.YtlfbmpenekiigaaGreatDoor
