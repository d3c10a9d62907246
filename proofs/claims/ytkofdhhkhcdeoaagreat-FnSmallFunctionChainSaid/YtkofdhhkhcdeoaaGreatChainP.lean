/- What a chain of pointers to functions prints; conditions: fewer than 2^47 bytes, 1000 functions at most. -/
import Derived.Test.YtkofdhhkhcdeoaaGreatChain
namespace Go.Proofs.YtkofdhhkhcdeoaaGreat
open Go.ChangeShapes Go.WideShapes Go.ChangeAt Go.RowKit

theorem printsBase (W : World) (p b : Nat) (s : ByteArray) (st : St) (hb : W.cell? ⟨b, 0, none⟩ = some (.string s)) (hbp : b < p) (hll : st.ll = false) (hl : st.txt.length + s.size ≤ 140737488355328) (hlen : st.prt.length ≤ 1000000)
    (hf : Fresh p W st.prt (.iface 38 (.pointer (some ⟨b, 0, none⟩)))) : Prints p W (.iface 38 (.pointer (some ⟨b, 0, none⟩))) st (st.wr s) :=
  prints_of W p _ _ b _ st (st.wr s) (isBuiltin b) hf hlen (builtinDoes W p b s { st with prt := st.prt ++ [_] } hb hbp hll hl)

theorem infoPt : (Tryz.prog.info? 32).map (fun i => i.comparable) = some true := by kernel_rfl
theorem infoPtE : (Tryz.prog.info? 36).map (fun i => i.size) = some 1 := by kernel_rfl
theorem infoFt : (Tryz.prog.info? 33).map (fun i => i.comparable) = some true := by kernel_rfl
theorem infoFtE : (Tryz.prog.info? 44).map (fun i => i.size) = some 3 := by kernel_rfl
theorem eql_pt_other (b c : Nat) (w : World) (cb cc : Array Value) (tb tc : TypeId) (hne : b ≠ c) (hb : w.heap[b]? = some (.cells cb tb (0, 0))) (hc : w.heap[c]? = some (.cells cc tc (0, 0))) :
    (binOp .eql 30 (.iface 32 (.pointer (some ⟨b, 0, none⟩))) (.iface 32 (.pointer (some ⟨c, 0, none⟩)))).run Tryz.prog w = .ok (.bool false) w := by
  obtain ⟨i, hi, hcm⟩ := Option.map_eq_some_iff.1 infoPt
  obtain ⟨j, hj, hjs⟩ := Option.map_eq_some_iff.1 infoPtE
  exact run_eql_iface_ptr_other w Tryz.underlying30 Tryz.underlying32 hi hcm hj (by rw [hjs]; decide) (fun e => hne (by injection e)) hb hc
theorem eql_ft_other (b c : Nat) (w : World) (cb cc : Array Value) (tb tc : TypeId) (hne : b ≠ c) (hb : w.heap[b]? = some (.cells cb tb (0, 0))) (hc : w.heap[c]? = some (.cells cc tc (0, 0))) :
    (binOp .eql 30 (.iface 33 (.pointer (some ⟨b, 0, none⟩))) (.iface 33 (.pointer (some ⟨c, 0, none⟩)))).run Tryz.prog w = .ok (.bool false) w := by
  obtain ⟨i, hi, hcm⟩ := Option.map_eq_some_iff.1 infoFt
  obtain ⟨j, hj, hjs⟩ := Option.map_eq_some_iff.1 infoFtE
  exact run_eql_iface_ptr_other w Tryz.underlying30 Tryz.underlying33 hi hcm hj (by rw [hjs]; decide) (fun e => hne (by injection e)) hb hc

/-- All that are being printed are pointers and functions, in blocks from B on. -/
def PrtC (W : World) (p B : Nat) (l : List Value) : Prop := ∀ x, x ∈ l → ∃ t b cs ty, x = .iface t (.pointer (some ⟨b, 0, none⟩)) ∧ (t = 32 ∨ t = 33) ∧ B ≤ b ∧ b < p ∧ W.heap[b]? = some (.cells cs ty (0, 0))

theorem PrtC.other {W : World} {p B : Nat} {l : List Value} (h : PrtC W p B l) (t b : Nat) (h1 : 32 ≠ t) (h2 : 33 ≠ t) : Fresh p W l (.iface t (.pointer (some ⟨b, 0, none⟩))) :=
  fresh_type' p W l t b fun x hx => by
    obtain ⟨t', b', _, _, e, ht, _⟩ := h x hx
    exact ⟨t', b', e, by rcases ht with rfl | rfl <;> assumption⟩
theorem PrtC.pointer {W : World} {p B : Nat} {l : List Value} (h : PrtC W p B l) {b : Nat} (hb : b < B) (hp : b < p) {cs : Array Value} {ty : TypeId} (hc : W.heap[b]? = some (.cells cs ty (0, 0))) : Fresh p W l (.iface 32 (.pointer (some ⟨b, 0, none⟩))) := by
  intro x hx
  obtain ⟨t', b', cs', ty', rfl, ht, h1, h2, h3⟩ := h x hx
  refine ⟨_, _, rfl, fun w hw => ?_⟩
  rw [← hw _ h2] at h3
  rw [← hw _ hp] at hc
  rcases ht with rfl | rfl
  · exact eql_pt_other _ _ w _ _ _ _ (by omega) h3 hc
  · exact run_eql_iface_types _ _ _ _ Tryz.underlying30 (by decide) w
theorem PrtC.function {W : World} {p B : Nat} {l : List Value} (h : PrtC W p B l) {b : Nat} (hb : b < B) (hp : b < p) {cs : Array Value} {ty : TypeId} (hc : W.heap[b]? = some (.cells cs ty (0, 0))) : Fresh p W l (.iface 33 (.pointer (some ⟨b, 0, none⟩))) := by
  intro x hx
  obtain ⟨t', b', cs', ty', rfl, ht, h1, h2, h3⟩ := h x hx
  refine ⟨_, _, rfl, fun w hw => ?_⟩
  rw [← hw _ h2] at h3
  rw [← hw _ hp] at hc
  rcases ht with rfl | rfl
  · exact run_eql_iface_types _ _ _ _ Tryz.underlying30 (by decide) w
  · exact eql_ft_other _ _ w _ _ _ _ (by omega) h3 hc
theorem PrtC.add {W : World} {p B b : Nat} {l : List Value} (h : PrtC W p B l) (hb : b ≤ B) (hp : b < p) (t : TypeId) (ht : t = 32 ∨ t = 33) {cs : Array Value} {ty : TypeId} (hc : W.heap[b]? = some (.cells cs ty (0, 0))) : PrtC W p b (l ++ [.iface t (.pointer (some ⟨b, 0, none⟩))]) := by
  intro x hx
  rcases List.mem_append.1 hx with hx | hx
  · obtain ⟨t', b', cs', ty', e, h0, h1, h2⟩ := h x hx
    exact ⟨t', b', cs', ty', e, h0, by omega, h2⟩
  · exact ⟨t, b, cs, ty, List.mem_singleton.1 hx, ht, Nat.le_refl _, hp, hc⟩

/-- The text of a function around a text. -/
def fT (s : ByteArray) (T : List UInt8) : List UInt8 := [40, 42] ++ T ++ [41, 40] ++ s.data.toList ++ [41]
def TT : List ByteArray → List UInt8 → List UInt8
  | [], T => T
  | s :: r, T => TT r (fT s T)
theorem fT_len (s : ByteArray) (T : List UInt8) : (fT s T).length = T.length + s.size + 5 := by
  simp only [fT, List.length_append, List.length_cons, List.length_nil, size_list]; omega
theorem TT_len (l : List ByteArray) : ∀ T, (TT l T).length ≤ T.length + 5 * sumLen l := by
  induction l with
  | nil => intro T; simp [TT, sumLen]
  | cons s l ih => intro T; have := ih (fT s T); rw [fT_len] at this; simp only [TT, sumLen]; omega

/-- What must hold of a state. -/
structure Ok (p : Nat) (W : World) (B d : Nat) (T : List UInt8) (st : St) : Prop where
  prt : PrtC W p B st.prt
  len : st.prt.length + d ≤ 100000
  inn : st.inn.length + d ≤ 100000
  sc : 0 ≤ st.sc ∧ st.sc + st.inn.length + d ≤ 90000
  txt : st.txt.length + 2 * T.length + 20 ≤ 140737487000000
  ll : st.ll = false

/-- What the inner types ahead print. -/
def Ctx (p : Nat) (W : World) (L : List Value) (T : List UInt8) : Prop :=
  ∀ st : St, st.inn = L → st.last = 42 → (∃ B, Ok p W B 0 T st) → ∃ n x, ∀ q, Rounds p W q n st { st with inn := [], txt := st.txt ++ T, last := x }

theorem ctx_nil (p : Nat) (W : World) : Ctx p W [] [] := fun st h1 _ _ => ⟨0, st.last, fun q => ⟨by cases st; simp at h1 ⊢; exact h1, h1⟩⟩

/-- A function's arguments, behind a pointer to it. -/
theorem argsDoes (W : World) (p bf bp : Nat) (ret : Value) (s : ByteArray) (L : List Value) (T : List UInt8) (hp : W.heap.size = p) (hF : FunAt W bf ret [s]) (hC : Ctx p W L T) (st : St) (hi : st.inn = L ++ [.iface 32 (.pointer (some ⟨bp, 0, none⟩))]) (hl : st.last = 32 ∨ st.last = 42) (B : Nat) (ok : Ok p W B 0 (fT s T) st) :
    Does p W 42 (.pointer (some ⟨bf, 0, none⟩)) st { st with inn := [], txt := st.txt ++ fT s T, last := 41 } := by
  subst hp
  obtain ⟨av, hblk, hN⟩ := hF
  have hbf : bf < W.heap.size := (Array.getElem?_eq_some_iff.1 hblk).1
  have e1 := ok.txt
  rw [fT_len] at e1
  have e2 := ok.sc
  have e3 := ok.len
  have e4 := ok.inn
  have hil : st.inn.length = L.length + 1 := by rw [hi]; simp
  obtain ⟨n, x, hR⟩ := hC (({ st.opn with inn := L } : St).wr ⟨#[42]⟩) rfl rfl ⟨B, ok.prt, by show st.prt.length + 0 ≤ _; omega, by show L.length + 0 ≤ _; omega, ⟨by show 0 ≤ st.sc + 1; omega, by show st.sc + 1 + L.length + ((0 : Nat) : Int) ≤ _; omega⟩, by show ((st.txt ++ [40]) ++ [42]).length + _ + _ ≤ _; simp; omega, ok.ll⟩
  have hR2 : ∀ q, Rounds W.heap.size W q (n + 1) st.opn { st with inn := [], sc := st.sc + 1, txt := st.txt ++ [40] ++ [42] ++ T, last := x } := fun q =>
    ⟨_, by show 0 < st.inn.length; omega, oneInnerC W W.heap.size q _ _ bp _ st.opn _ L (innPointer bp) (mwqPointer bp) hi (by show st.inn.length ≤ _; omega) (ptrInnerDoes W W.heap.size _ { st.opn with inn := L } (by show (st.txt ++ [40]).length + 1 ≤ _; simp; omega)), hR q⟩
  obtain ⟨cs, h1, h2, h3⟩ := elems_names hN (by simp)
  have hnl := namesList W W.heap.size [s] true cs (({ st with inn := [], sc := st.sc + 1, txt := st.txt ++ [40] ++ [42] ++ T, last := x } : St).cls.opn) h1 h2 (fun b => ok.prt.other _ b (by decide) (by decide)) (by show st.prt.length ≤ _; omega) ok.ll
    (by show ((((st.txt ++ [40] ++ [42] ++ T) ++ [41]) ++ [40]) : List UInt8).length + _ + _ ≤ _; simp [sumLen]; omega)
  have hd := printArgsP W W.heap.size bf bp (n + 1) av _ L st _ _ ⟨hbf, by rw [cell_of_row W bf 2 _ _ (0, 0) hblk]; rfl, rfl, rfl, ⟨by show 1 ≤ st.sc + 1; omega, by show st.sc + 1 ≤ _; omega⟩, ⟨by show 1 ≤ st.sc + 1 - 1 + 1; omega, by show st.sc + 1 - 1 + 1 ≤ _; omega⟩, by show (st.txt ++ [40] ++ [42] ++ T).length + 10 ≤ _; simp; omega,
      by rw [wrL_len]; show (((st.txt ++ [40] ++ [42] ++ T) ++ [41]) ++ [40]).length + _ + 10 ≤ _; simp [jn, jt]; omega⟩
    (by rw [cell_of_row W bf 1 _ _ (0, 0) hblk]; rfl) hi hl (by omega) ⟨e2.1, by omega⟩ (by omega) hR2 h3 hnl
  have e : (wrL (({ st with inn := [], sc := st.sc + 1, txt := st.txt ++ [40] ++ [42] ++ T, last := x } : St).cls.opn) (if true = true then jn [s] else jt [s])).cls = { st with inn := [], txt := st.txt ++ fT s T, last := 41 } := by
    simp [wrL, St.cls, St.opn, jn, jt, fT]
  rw [e] at hd
  exact hd

theorem ctx_step (W : World) (p bf bp : Nat) (ret : Value) (s : ByteArray) (L : List Value) (T : List UInt8) (hp : W.heap.size = p) (hF : FunAt W bf ret [s]) (hC : Ctx p W L T) :
    Ctx p W (L ++ [.iface 32 (.pointer (some ⟨bp, 0, none⟩))] ++ [.iface 33 (.pointer (some ⟨bf, 0, none⟩))]) (fT s T) := by
  intro st hi hl ⟨B, ok⟩
  have hil : st.inn.length = L.length + 1 + 1 := by rw [hi]; simp
  have e2 := ok.sc
  have e4 := ok.inn
  refine ⟨1, 41, fun q => ⟨_, by omega, oneInnerC W p q _ _ bf _ st _ _ (innFunction bf) (mwqFunction bf) hi (by omega) (funInnerDoes W p bf _ _ (argsDoes W p bf bp ret s L T hp hF hC { st with inn := L ++ [.iface 32 (.pointer (some ⟨bp, 0, none⟩))] } rfl (.inr hl) B
    ⟨ok.prt, ok.len, by simp; omega, ⟨e2.1, by simp; omega⟩, ok.txt, ok.ll⟩)), rfl, rfl⟩⟩

/-- The state behind a chain. -/
def chF (back : ByteArray) (l : List ByteArray) (T : List UInt8) (st : St) : St := { st with inn := [], txt := st.txt ++ back.data.toList ++ [32] ++ TT l T, last := 41 }

/-- A pointer to a function, and so on. -/
theorem chainDoes (W : World) (p : Nat) (back : ByteArray) (hp : W.heap.size = p) (rest : List ByteArray) : ∀ (s : ByteArray) (bp bf : Nat) (v' : Value) (L : List Value) (T : List UInt8) (st : St), bf < bp →
    W.heap[bp]? = some (.cells #[.iface 33 (.pointer (some ⟨bf, 0, none⟩))] 36 (0, 0)) → FunAt W bf v' [s] → ChainAt W back bf rest v' → st.inn = L → Ctx p W L T → Ok p W bp (2 * rest.length + 4) (back.data.toList ++ [32] ++ TT (s :: rest) T) st →
    Does p W 33 (.pointer (some ⟨bp, 0, none⟩)) st (chF back (s :: rest) T st) := by
  induction rest with
  | nil =>
    intro s bp bf v' L T st hlt hbp hF hCh hi hC ok
    obtain ⟨bb, hbb, rfl, hblk⟩ := hCh
    obtain ⟨av, hfb, hN⟩ := id hF
    have hbp' : bp < p := by rw [← hp]; exact (Array.getElem?_eq_some_iff.1 hbp).1
    have e1 := ok.txt
    have e2 := ok.sc
    have e3 := ok.len
    have e4 := ok.inn
    have e5 := fT_len s T
    simp only [List.length_append, List.length_cons, List.length_nil, size_list, TT, e5] at e1
    simp only [List.length_nil] at e2 e3 e4
    have okf := ok.prt.add (Nat.le_of_lt hlt) (by omega) _ (.inr rfl) hfb
    have hd := funLast W p bf _ bb { st with inn := st.inn ++ [.iface 32 (.pointer (some ⟨bp, 0, none⟩))], prt := st.prt ++ [.iface 33 (.pointer (some ⟨bf, 0, none⟩))] } _ { chF back [s] T st with prt := st.prt ++ [.iface 33 (.pointer (some ⟨bf, 0, none⟩))] }
      (by rw [cell_of_row W bf 0 _ _ (0, 0) hfb]; rfl) (by rw [cell_of_row W bf 2 _ _ (0, 0) hfb]; rfl) (by omega) (by simp; omega)
      (printsBase W p bb back { st with inn := (st.inn ++ [.iface 32 (.pointer (some ⟨bp, 0, none⟩))]) ++ [.iface 33 (.pointer (some ⟨bf, 0, none⟩))], prt := st.prt ++ [.iface 33 (.pointer (some ⟨bf, 0, none⟩))] } (by rw [cell_of_row W bb 0 _ _ (0, 0) hblk]; rfl) (by omega) ok.ll (by show st.txt.length + _ ≤ _; omega) (by simp; omega) (okf.other _ bb (by decide) (by decide))) rfl
      (by rw [wr_len]; show st.txt.length + _ + 1 ≤ _; omega)
      (argsDoes W p bf bp _ s L T hp hF hC _ (by show st.inn ++ _ = _; rw [hi]) (.inl rfl) bf ⟨okf, by simp [St.wb, St.wr]; omega, by simp [St.wb, St.wr]; omega, ⟨e2.1, by simp [St.wb, St.wr]; omega⟩, by rw [wb_len]; show (st.txt ++ back.data.toList).length + 1 + _ + _ ≤ _; rw [List.length_append, size_list, e5]; omega, ok.ll⟩)
    have hpr := prints_of W p _ _ bf _ { st with inn := st.inn ++ [.iface 32 (.pointer (some ⟨bp, 0, none⟩))] } (chF back [s] T st) (isFunction bf) (ok.prt.function hlt (by omega) hfb) (by show st.prt.length ≤ _; omega) hd
    exact pointerDoes W p bp _ st (chF back [s] T st) (by rw [cell_of_row W bp 0 _ _ (0, 0) hbp]; rfl) hbp' (by omega) hpr rfl
  | cons s' r ih =>
    intro s bp bf v' L T st hlt hbp hF hCh hi hC ok
    obtain ⟨bp', bf', v2, rfl, hb1, hb2, hblk, hF2, hCh2⟩ := hCh
    obtain ⟨av, hfb, hN⟩ := id hF
    have hbp' : bp < p := by rw [← hp]; exact (Array.getElem?_eq_some_iff.1 hbp).1
    have e2 := ok.sc
    have e3 := ok.len
    have e4 := ok.inn
    simp only [List.length_cons] at e2 e3 e4
    have okf := ok.prt.add (Nat.le_of_lt hlt) (by omega) _ (.inr rfl) hfb
    have okp := okf.add (Nat.le_of_lt hb1) (by omega) _ (.inl rfl) hblk
    have hin := ih s' bp' bf' v2 (st.inn ++ [.iface 32 (.pointer (some ⟨bp, 0, none⟩))] ++ [.iface 33 (.pointer (some ⟨bf, 0, none⟩))]) (fT s T)
      { st with inn := st.inn ++ [.iface 32 (.pointer (some ⟨bp, 0, none⟩))] ++ [.iface 33 (.pointer (some ⟨bf, 0, none⟩))], prt := st.prt ++ [.iface 33 (.pointer (some ⟨bf, 0, none⟩))] ++ [.iface 32 (.pointer (some ⟨bp', 0, none⟩))] }
      hb2 hblk hF2 hCh2 rfl (by rw [hi]; exact ctx_step W p bf bp _ s L T hp hF hC) ⟨okp, by simp; omega, by simp; omega, ⟨e2.1, by simp; omega⟩, ok.txt, ok.ll⟩
    have hpr1 := prints_of W p _ _ bp' _ { st with inn := st.inn ++ [.iface 32 (.pointer (some ⟨bp, 0, none⟩))] ++ [.iface 33 (.pointer (some ⟨bf, 0, none⟩))], prt := st.prt ++ [.iface 33 (.pointer (some ⟨bf, 0, none⟩))] }
      { chF back (s :: s' :: r) T st with prt := st.prt ++ [.iface 33 (.pointer (some ⟨bf, 0, none⟩))] } (isPointer bp') (okf.pointer hb1 (by omega) hblk) (by simp; omega) hin
    have hd := funAll W p bf _ bp' { st with inn := st.inn ++ [.iface 32 (.pointer (some ⟨bp, 0, none⟩))], prt := st.prt ++ [.iface 33 (.pointer (some ⟨bf, 0, none⟩))] } { chF back (s :: s' :: r) T st with prt := st.prt ++ [.iface 33 (.pointer (some ⟨bf, 0, none⟩))] }
      (by rw [cell_of_row W bf 0 _ _ (0, 0) hfb]; rfl) (by rw [cell_of_row W bf 2 _ _ (0, 0) hfb]; rfl) (by omega) (by simp; omega) hpr1 rfl
    have hpr := prints_of W p _ _ bf _ { st with inn := st.inn ++ [.iface 32 (.pointer (some ⟨bp, 0, none⟩))] } (chF back (s :: s' :: r) T st) (isFunction bf) (ok.prt.function hlt (by omega) hfb) (by show st.prt.length ≤ _; omega) hd
    exact pointerDoes W p bp _ st (chF back (s :: s' :: r) T st) (by rw [cell_of_row W bp 0 _ _ (0, 0) hbp]; rfl) hbp' (by omega) hpr rfl
end Go.Proofs.YtkofdhhkhcdeoaaGreat
