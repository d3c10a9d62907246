/- impl.with: an element and some more in one row; conditions: the elements lie in memory, few of them. -/
import Derived.Test.YtlfbmpenekiigaaGreatDoorNodeC
namespace Go.Proofs.YtlfbmpenekiigaaGreatDoor
open Go.ChangeShapes Go.WideShapes Go.ChangeAt Go.RowKit
set_option linter.unusedVariables false

theorem own_form {w : World} {N e size n : Nat} {v : Value} {xs : List Value} (h : w.ownsRow N e size v n xs) : ∃ a c, v = .slice a n c := by
  rcases h.2 with ⟨rfl, rfl⟩ | ⟨g, cap, cur, rfl, _⟩
  · exact ⟨none, 0, rfl⟩
  · exact ⟨_, _, rfl⟩
theorem lies_at {v : Value} {gg n cap H : Nat} (hat : v.ownBlock = some gg ∨ gg = H) : ∀ k, (Value.slice (some ⟨gg, 0, none⟩) n cap).ownBlock = some k → v.ownBlock = some k ∨ H ≤ k := by
  intro k hk
  obtain rfl : gg = k := by simpa [Value.ownBlock] using hk
  rcases hat with h | h
  · exact .inl h
  · exact .inr (by omega)

theorem wpList_cat {P : Program} {w : World} {ops : Array Oper} {rest : List Oper} {o : Oper} {a : Act} {Q : Exit → Act → World → Prop} (hgd : o.guard = none) (s x : Operand) (t : TypeId)
    (ho : o.op = .call { callee := .builtin .append, args := #[s, x], argTypes := #[t, t] })
    (base : Nat) (e : TypeId) (i : TypeInfo) (z : Value) (bytes : Nat) (ht : P.underlying t = some (.slice e)) (hi : P.info? e = some i) (hz : i.zero = some z) (hsize : i.size = 1) (hby : i.bytes = bytes) (hzs : z.cells.size = 1) (hbm : bytes ≤ 16)
    (v : Value) (n : Nat) (xs : List Value) (hs : a.eval s = v) (hown : w.ownsRow base e 1 v n xs) (ax : Option Addr) (m cx : Nat) (news : List Value) (hx : a.eval x = .slice ax m cx) (hl : news.length = m)
    (hnews : ∀ j u, news[j]? = some u → ∃ b k, ax = some ⟨b, k, none⟩ ∧ w.cell? ⟨b, k + j, none⟩ = some u) (h1 : ∀ u ∈ news, u.oneCell' = true) (hnm : n + m ≤ 5000000000) (hbase : base ≤ w.heap.size)
    (h : ∀ v' w', w'.ownsRow base e 1 v' (n + m) (xs ++ news) → w.grownBy w' v.ownBlock → (∀ k, v'.ownBlock = some k → v.ownBlock = some k ∨ w.heap.size ≤ k) → (∃ a' c', v' = .slice a' (n + m) c') → wpList P ops Q rest (a.put o.dst v') w') :
    wpList P ops Q (o :: rest) a w := by
  cases m with
  | zero =>
    have e0 : news = [] := List.eq_nil_of_length_eq_zero hl
    subst e0
    obtain ⟨va, vc, rfl⟩ := own_form hown
    have hle : n ≤ vc := by
      rcases hown.2 with ⟨e1, e2⟩ | ⟨g, cap, cur, e1, _, _, h4, _⟩
      · omega
      · simp at e1; omega
    refine wpList_plain hgd fun K hK => ?_
    have hsrc : Src P i.size t (.slice ax 0 cx) 0 [] w := by
      cases ax with
      | none => exact Src.ofNil w ht cx
      | some ad => exact Src.ofSlice w ht ad 0 cx [] (by simp) (fun j u hu => by simp at hu) (fun u hu => by cases hu)
    have hrun := run_append_nothing w t t o.type e i ht hi va n vc hle _ hsrc
    unfold Oper.wp
    simp [execOp, ho, resolve, invoke, builtin, hs, hx, hrun, Result.andThen]
    exact hK _ _ (h _ w (by simpa using hown) (World.grownBy.refl _ _) (fun k hk => .inl hk) ⟨_, _, rfl⟩)
  | succ m =>
    obtain ⟨u0, hu0⟩ : ∃ u, news[0]? = some u := ⟨_, List.getElem?_eq_getElem (by omega)⟩
    obtain ⟨b, k, rfl, _⟩ := hnews 0 u0 hu0
    have hn2 : ∀ j u, news[j]? = some u → w.cell? ((⟨b, k, none⟩ : Addr).add j) = some u := by
      intro j u hj
      obtain ⟨b', k', e', hc⟩ := hnews j u hj
      simp at e'
      obtain ⟨rfl, rfl⟩ := e'
      rw [Addr.add_lit]
      exact hc
    refine wpList_append_lies w hgd s x t ho base e i z 1 bytes ht hi hz hsize hby hzs (by decide) v n xs hs hown ⟨b, k, none⟩ (m + 1) cx news hx (by omega) hn2 h1 (by omega) (by unfold maxLen; omega) ?_ hbase w.heap.size rfl ?_
    · have := Nat.mul_le_mul hnm hbm
      omega
    · intro g cap w' h2 h3 h4 _
      exact h _ w' h2 h3 (lies_at h4) ⟨_, _, rfl⟩

theorem row_vals {w : World} {S : Nat → Prop} {N : Tree → Value → Prop} {l : List Tree} {a : Option Addr} {c : Nat} (h : RowAt w S N l (.slice a l.length c)) :
    ∃ us : List Value, us.length = l.length ∧ (∀ (j : Nat) (u : Value), us[j]? = some u → ∃ b k, a = some ⟨b, k, none⟩ ∧ w.cell? ⟨b, k + j, none⟩ = some u) ∧ ∀ (i : Nat) (x : Tree), l[i]? = some x → ∃ u, us[i]? = some u ∧ N x u := by
  obtain ⟨a', c', e, _, _, h3⟩ := h
  obtain ⟨rfl, rfl⟩ : a = a' ∧ c = c' := by simpa using e
  have step : ∀ i, i < l.length → ∃ u, ∃ g, a = some ⟨g, 0, none⟩ ∧ w.cell? ⟨g, i, none⟩ = some u ∧ ∀ x, l[i]? = some x → N x u := fun i hi => by
    obtain ⟨g, u, e, _, hc, hn⟩ := h3 i _ (List.getElem?_eq_getElem hi)
    exact ⟨u, g, e, hc, fun x hx => by rw [List.getElem?_eq_getElem hi] at hx; rw [← Option.some.inj hx]; exact hn⟩
  have go : ∀ n, n ≤ l.length → ∃ us : List Value, us.length = n ∧ ∀ i u, us[i]? = some u → ∃ g, a = some ⟨g, 0, none⟩ ∧ w.cell? ⟨g, i, none⟩ = some u ∧ ∀ x, l[i]? = some x → N x u := by
    intro n
    induction n with
    | zero => exact fun _ => ⟨[], rfl, fun i u h => by simp at h⟩
    | succ n ih =>
      intro hn
      obtain ⟨us, hl, hu⟩ := ih (by omega)
      obtain ⟨u, hq⟩ := step n (by omega)
      refine ⟨us ++ [u], by simp [hl], fun i v hv => ?_⟩
      by_cases hi : i < us.length
      · rw [List.getElem?_append_left hi] at hv
        exact hu i v hv
      · rw [List.getElem?_append_right (by omega)] at hv
        have h0 : i - us.length = 0 := by have := (List.getElem?_eq_some_iff.1 hv).1; simp at this; omega
        rw [h0] at hv
        obtain rfl : u = v := by simpa using hv
        obtain rfl : i = n := by omega
        exact hq
  obtain ⟨us, hl, hu⟩ := go l.length (Nat.le_refl _)
  refine ⟨us, hl, fun j u hj => ?_, fun i x hx => ?_⟩
  · obtain ⟨g, e, hc, _⟩ := hu j u hj
    exact ⟨g, 0, e, by rw [Nat.zero_add]; exact hc⟩
  · have hi := (List.getElem?_eq_some_iff.1 hx).1
    obtain ⟨u, hq⟩ : ∃ u, us[i]? = some u := ⟨_, List.getElem?_eq_getElem (by omega)⟩
    obtain ⟨_, _, _, hn⟩ := hu i u hq
    exact ⟨u, hq, hn x hx⟩

set_option maxRecDepth 100000 in
set_option maxHeartbeats 2000000 in
theorem withC (d : Nat) (x : Tree) (l : List Tree) (u v : Value) (w : World) (S : Nat → Prop) (hu : AstAt w S d x u) (hrow : RowAt w S (AstAt w S d) l v) (low : ∀ b, S b → b < w.heap.size) (hfew : l.length ≤ 200) :
    Calls Tryz.prog 39 #[u, v] w (fun e w' => ∃ v', e = .returned v' ∧ RowAt w' (In0 w') (AstAt w' (In0 w') d) (x :: l) v' ∧ Below w.heap.size w w') := by
  obtain ⟨la, lc, rfl⟩ := hrow.form
  obtain ⟨us, hul, hus, hel⟩ := row_vals hrow
  obtain ⟨i0, hi0, hz0, hz1, hz2⟩ := info_parts Tryz.infoAst
  have h1 : ∀ y ∈ us, y.oneCell' = true := fun y hy => by
    obtain ⟨j, hj, rfl⟩ := List.getElem_of_mem hy
    obtain ⟨z, hz⟩ : ∃ z, l[j]? = some z := ⟨_, List.getElem?_eq_getElem (by omega)⟩
    obtain ⟨q, hq, ha⟩ := hel j z hz
    rw [List.getElem?_eq_getElem hj] at hq
    rw [Option.some.inj hq]
    exact ha.cell1
  have HU := Lib.hid hu
  have HEL := Lib.hid hel
  have HUS := Lib.hid hus
  have HUL := Lib.hid hul
  have HL := Lib.hid low
  have H1 := Lib.hid h1
  have key : ∀ uu : Value, (uu = .nilIface ∨ ∃ p b, uu = .iface p (.pointer (some ⟨b, 0, none⟩))) → uu = u → Calls Tryz.prog 39 #[uu, .slice la l.length lc] w (fun e w' => ∃ v', e = .returned v' ∧ RowAt w' (In0 w') (AstAt w' (In0 w') d) (x :: l) v' ∧ Below w.heap.size w w') := by
    intro uu hform heq
    have HEQ := Lib.hid heq
    clear hu hrow hel hus hul low h1 heq
    rcases hform with rfl | ⟨p, b, rfl⟩
    all_goals
      go_enter Tryz.func39, Tryz.ntmps39
      go_wp2_with (at_builtin; refine wpList_cat rfl (.tmp 6) (.tmp 7) 63 rfl w.heap.size 33 i0 _ 16 Tryz.underlying63 hi0 hz0 hz1 hz2 rfl (by decide) (.slice (some ⟨w.heap.size, 0, none⟩) 1 1) 1 [_] rfl (World.ownsRow_lit w #[_] 1 (Nat.le_refl _) (by decide) rfl) la l.length lc us rfl HUL.out (fun j y hj => by obtain ⟨b', k', e', hc'⟩ := HUS.out j y hj; exact ⟨b', k', e', cells_below (below1 w _) _ _ _ hc'⟩) H1.out (by omega) (by simp) ?_; intro v2 w2 hown hgrow hlies hform2; have G1 := Lib.hid hown; have G2 := Lib.hid hgrow; have G4 := Lib.hid hform2; clear hown hgrow hlies hform2)
      go_ret
      obtain ⟨va, vc, rfl⟩ := G4.out
      have hb2 : Below w.heap.size w w2 := (below1 w _).grown G2.out (by simp) (fun q hq => by simp [Value.ownBlock] at hq; omega)
      refine ⟨_, rfl, ?_, hb2⟩
      have hrow0 := G1.out.2
      rcases hrow0 with ⟨_, h0⟩ | ⟨g, cap, cur, e, hg, _, hk1, hk2, hk3, hk4⟩
      · omega
      · obtain ⟨rfl, rfl⟩ : va = some ⟨g, 0, none⟩ ∧ vc = cap := by simpa using e
        refine ⟨some ⟨g, 0, none⟩, vc, by simp [Nat.add_comm], by simp; omega, by unfold maxLen at hk2; omega, fun i y hy => ?_⟩
        have hlt : i < 1 + l.length := by have := (List.getElem?_eq_some_iff.1 hy).1; simp at this; omega
        have hcell := G1.out.cellAt i (by omega)
        rcases i with _ | i
        · obtain rfl : x = y := by simpa using hy
          exact ⟨g, _, rfl, (G1.out.lt g rfl).2, hcell.trans rfl, by rw [HEQ.out]; exact HU.out.all HL.out hb2⟩
        · have hy' : l[i]? = some y := by simpa using hy
          obtain ⟨q, hq, ha⟩ := HEL.out i y hy'
          exact ⟨g, q, rfl, (G1.out.lt g rfl).2, by rw [hcell, List.getElem?_append_right (by simp)]; simpa using hq, ha.all HL.out hb2⟩
  exact key u hu.ptr2 rfl

theorem agg_eq {k k' a a' : ByteArray} {n n' : Int} {kv : Value} (h1 : k = k') (h2 : a = a') (h3 : n = n') : Ending.returned (.agg #[.string k, .string a, .int .i64 n, kv]) = Ending.returned (.agg #[.string k', .string a', .int .i64 n', kv]) := by
  rw [h1, h2, h3]
end Go.Proofs.YtlfbmpenekiigaaGreatDoor
