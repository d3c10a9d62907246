/- impl.templates: the Templates that it makes, as they lie in memory; conditions: the lists read as strings and hold a million at most, the first is not empty. -/
import Derived.Test.YtabnnnnheipldaaCat
import Derived.Deep.LoopGhost
namespace Go.Proofs.Ytabnnnnheipldaa
open Go.ChangeShapes Go.WideShapes Go.ChangeAt Go.RowKit

/-- A slice of Names. -/
def NamesV (w : World) (v : Value) (l : List ByteArray) : Prop :=
  ∃ (a : Option Addr) (c : Nat) (cs : List Nat), v = .slice a l.length c ∧ cs.length = l.length ∧ ∀ i cb, cs[i]? = some cb → ∃ g, a = some ⟨g, 0, none⟩ ∧ w.cell? ⟨g, i, none⟩ = some (.iface 79 (.pointer (some ⟨cb, 0, none⟩))) ∧ w.cell? ⟨cb, 0, none⟩ = some (.string (l.getD i ByteArray.empty))

/-- The arguments of a Template: Names, or a Template alone. -/
def TArgs (w : World) (names : List ByteArray) : Nat → List ByteArray → Value → Prop
  | _, [], v => NamesV w v names
  | B, s :: rest, v => ∃ b nb g v', v = .slice (some ⟨g, 0, none⟩) 1 1 ∧ b < B ∧ w.cell? ⟨g, 0, none⟩ = some (.iface 94 (.pointer (some ⟨b, 0, none⟩))) ∧
      w.heap[b]? = some (.cells #[.iface 79 (.pointer (some ⟨nb, 0, none⟩)), v'] 96 (0, 0)) ∧ w.cell? ⟨nb, 0, none⟩ = some (.string s) ∧ TArgs w names b rest v'

theorem NamesV.below {w w' : World} {v : Value} {l : List ByteArray} (h : NamesV w v l) (hb : Below w.heap.size w w') : NamesV w' v l := by
  obtain ⟨a, c, cs, e1, e2, e3⟩ := h
  refine ⟨a, c, cs, e1, e2, fun i cb hi => ?_⟩
  obtain ⟨g, ea, h1, h2⟩ := e3 i cb hi
  exact ⟨g, ea, (hb.cell (p := ⟨g, i, none⟩) (World.block_lt_of_cell? w _ h1)).trans h1, (hb.cell (p := ⟨cb, 0, none⟩) (World.block_lt_of_cell? w _ h2)).trans h2⟩

theorem TArgs.below {w w' : World} {names : List ByteArray} (hb : Below w.heap.size w w') (l : List ByteArray) : ∀ (B B' : Nat) (v : Value), B ≤ B' → TArgs w names B l v → TArgs w' names B' l v := by
  induction l with
  | nil => intro B B' v _ h; exact NamesV.below h hb
  | cons s l ih =>
    intro B B' v hB h
    obtain ⟨b, nb, g, v', e1, e2, h1, h2, h3, h4⟩ := h
    exact ⟨b, nb, g, v', e1, by omega, (hb.cell (p := ⟨g, 0, none⟩) (World.block_lt_of_cell? w _ h1)).trans h1, (hb.block b (Array.getElem?_eq_some_iff.1 h2).1).trans h2, (hb.cell (p := ⟨nb, 0, none⟩) (World.block_lt_of_cell? w _ h3)).trans h3, ih b b v' (Nat.le_refl _) h4⟩

theorem TArgs.form {w : World} {names : List ByteArray} {B : Nat} {l : List ByteArray} {v : Value} (h : TArgs w names B l v) : ∃ a n c, v = .slice a n c := by
  cases l with
  | nil => obtain ⟨a, c, cs, e1, _⟩ := h; exact ⟨a, _, c, e1⟩
  | cons s l => obtain ⟨b, nb, g, v', e1, _⟩ := h; exact ⟨_, _, _, e1⟩

/-- The first arguments: a Name, and Names behind it. -/
theorem first_args {w2 : World} {N : Nat} {v' : Value} {x : Nat} {cs : List Nat} {s : ByteArray} {l : List ByteArray} (hx : w2.cell? ⟨x, 0, none⟩ = some (.string s)) (hcl : cs.length = l.length)
    (hcs : ∀ i c, cs[i]? = some c → w2.cell? ⟨c, 0, none⟩ = some (.string (l.getD i ByteArray.empty))) (hform : ∃ a' c', v' = .slice a' (1 + cs.length) c')
    (hown : w2.ownsRow N 45 1 v' (1 + cs.length) ([.iface 79 (.pointer (some ⟨x, 0, none⟩))] ++ cs.map fun c => .iface 79 (.pointer (some ⟨c, 0, none⟩)))) : NamesV w2 v' (s :: l) := by
  obtain ⟨a', c', rfl⟩ := hform
  refine ⟨a', c', x :: cs, by simp [hcl, Nat.add_comm], by simp [hcl], ?_⟩
  intro i cb hi
  have hil : i < (x :: cs).length := (List.getElem?_eq_some_iff.1 hi).1
  rcases hown.2 with ⟨e1, e2⟩ | ⟨g, cap, cur, e1, _, hg, _, _, _, ht⟩
  · omega
  · simp at e1
    obtain ⟨rfl, rfl⟩ := e1
    refine ⟨g, rfl, ?_, ?_⟩
    · rw [cell_of_row w2 g i cur _ (0, 0) hg]
      have h1 : (cur.toList.take ((1 + cs.length) * 1))[i]? = ([Value.iface 79 (.pointer (some ⟨x, 0, none⟩))] ++ cs.map fun c => .iface 79 (.pointer (some ⟨c, 0, none⟩)))[i]? := by rw [ht]
      rw [List.getElem?_take_of_lt (by simp at hil; omega)] at h1
      have h2 : ([Value.iface 79 (.pointer (some ⟨x, 0, none⟩))] ++ cs.map fun c => .iface 79 (.pointer (some ⟨c, 0, none⟩))) = (x :: cs).map fun c => Value.iface 79 (.pointer (some ⟨c, 0, none⟩)) := rfl
      rw [h2, List.getElem?_map, hi] at h1
      simpa using h1
    · cases i with
      | zero =>
        obtain rfl : x = cb := by simpa using hi
        exact hx
      | succ i => exact hcs i cb (by simpa using hi)

theorem own_one {w : World} {N g : Nat} {e : TypeId} {x : Value} (h : w.heap[g]? = some (.cells #[x] e (0, 0))) (hN : N ≤ g) : w.ownsRow N e 1 (.slice (some ⟨g, 0, none⟩) 1 1) 1 [x] :=
  ⟨rfl, .inr ⟨g, 1, #[x], rfl, hN, h, Nat.le_refl _, by unfold maxLen; omega, rfl, rfl⟩⟩

theorem own_cells {w : World} {N n : Nat} {e : TypeId} {a : Option Addr} {c : Nat} {xs : List Value} (h : w.ownsRow N e 1 (.slice a n c) n xs) : ∀ j u, xs[j]? = some u → ∃ b k, a = some ⟨b, k, none⟩ ∧ w.cell? ⟨b, k + j, none⟩ = some u := by
  intro j u hj
  have hlen := h.1
  have hjl := (List.getElem?_eq_some_iff.1 hj).1
  rcases h.2 with ⟨e1, e2⟩ | ⟨g, cap, cur, e1, _, hg, _, _, _, ht⟩
  · rw [e2] at hlen; omega
  · simp at e1
    refine ⟨g, 0, e1.1, ?_⟩
    rw [Nat.zero_add, cell_of_row w g j cur _ (0, 0) hg]
    have h1 : (cur.toList.take (n * 1))[j]? = xs[j]? := by rw [ht]
    rw [List.getElem?_take_of_lt (by omega), hj] at h1
    simpa using h1

theorem args_step {w w1 w2 : World} {v1 v' : Value} {cs : List Nat} {s : ByteArray} {m : List ByteArray} (hN : NamesR w1 (w.heap.size + 2) v1 cs m) (hb1 : Below (w.heap.size + 2) ((w.alloc (.cells #[.string s] 81)).alloc (.cells #[.iface 79 (.pointer (some ⟨w.heap.size, 0, none⟩))] 45)) w1)
    (hgrow : w1.grownBy w2 (some (w.heap.size + 1))) (hform : ∃ a' c', v' = .slice a' (1 + m.length) c')
    (hown : w2.ownsRow w.heap.size 45 1 v' (1 + m.length) ([.iface 79 (.pointer (some ⟨w.heap.size, 0, none⟩))] ++ cs.map fun c => .iface 79 (.pointer (some ⟨c, 0, none⟩)))) : NamesV w2 v' (s :: m) ∧ Below w.heap.size w w2 := by
  have hsz : w.heap.size + 2 ≤ w1.heap.size := by have := hb1.size; simpa using this
  rw [← hN.1] at hform hown
  refine ⟨first_args (x := w.heap.size) (cs := cs) ?_ hN.1 ?_ hform hown, ?_⟩
  · rw [World.cell?_of_block (w := w1) (hgrow.block w.heap.size (by omega) (by simp))]
    rw [hb1.cell (p := ⟨w.heap.size, 0, none⟩) (by exact Nat.lt_add_of_pos_right (by decide))]
    rw [World.cell?_alloc_past _ _ _ (by simp)]
    exact (World.cell?_alloc_at (w := w) _ _ _ _ rfl).trans (by simp)
  · intro i c hi
    obtain ⟨⟨h1, h2, h3⟩, _⟩ := hN.2.2 i c hi
    rw [World.cell?_of_block (w := w1) (hgrow.block c h3 (by simp; omega))]
    exact cell_of_one h1
  · have b0 : Below w.heap.size w w1 := (((Below.refl w.heap.size w).alloc (Nat.le_refl _) _).alloc (by simp) _).trans (hb1.mono (by omega))
    exact b0.grown hgrow (by omega) (fun q hq => by simp at hq; omega)

set_option maxRecDepth 100000 in
set_option maxHeartbeats 4000000 in
theorem templatesC (v vm : Value) (l m : List ByteArray) (s : ByteArray) (w : World) (h : Strs w v l) (hm : Strs w vm m) (hn : 0 < l.length) (hl1 : l.length ≤ 100000) (hm1 : m.length ≤ 100000) :
    Calls Try.prog 34 #[v, .string s, vm] w fun e w' => ∃ b nb v', e = .returned (.iface 94 (.pointer (some ⟨b, 0, none⟩))) ∧ b < w'.heap.size ∧ w'.heap[b]? = some (.cells #[.iface 79 (.pointer (some ⟨nb, 0, none⟩)), v'] 96 (0, 0)) ∧
      w'.cell? ⟨nb, 0, none⟩ = some (.string (l.getD 0 ByteArray.empty)) ∧ TArgs w' (s :: m) b (l.drop 1) v' ∧ Below w.heap.size w w' := by
  obtain ⟨i0, hi0, hz0, hz1, hz2⟩ := info_parts infoA
  have hnc := Lib.hid (namesC vm m ((w.alloc (.cells #[.string s] 81)).alloc (.cells #[.iface 79 (.pointer (some ⟨w.heap.size, 0, none⟩))] 45)) (hm.below' (((Below.refl _ _).alloc (Nat.le_refl _) _).alloc (by simp) _)) (by omega))
  obtain ⟨ad, c, rfl, hl, hc⟩ := h
  have HC := Lib.hid hc
  clear hc hm
  have e0 : ((l.length : Int) == 0) = false := by rw [beq_eq_false_iff_ne]; omega
  go_enter Try.func34, Try.ntmps34
  go_wp2_with (first | (go_at_call 29; refine (nameC _ _).mono ?_; rintro e w' ⟨rfl, rfl⟩) | (go_at_call 38; refine hnc.out.mono ?_; rintro e w1 ⟨v1, cs, rfl, hN, hb1⟩; obtain ⟨va, vc, rfl⟩ := hN.form; have hb2 : Below (w.heap.size + 2) _ w1 := (by simpa using hb1); have hN2 : NamesR w1 (w.heap.size + 2) _ cs m := (by simpa using hN); have hO := own_one (N := w.heap.size) (hb2.block (w.heap.size + 1) (by omega) |>.trans (by have hh := heap_alloc_new (w.alloc (.cells #[.string s] 81)) (.cells #[.iface 79 (.pointer (some ⟨w.heap.size, 0, none⟩))] 45); simpa using hh)) (Nat.le_succ _); have hcs := own_cells (hN2.1 ▸ hN2.2.1); have hsz1 : w.heap.size + 2 ≤ w1.heap.size := (by have := hb2.size; simpa using this); have HO := Lib.hid hO; have HS := Lib.hid hcs; have HN := Lib.hid hN2; have HB := Lib.hid hb2; clear hN hb1 hN2 hb2 hO hcs) | (at_builtin; refine wpList_cat rfl (.tmp 11) (.tmp 13) 73 rfl w.heap.size 45 i0 _ 16 Try.underlying73 hi0 hz0 hz1 hz2 rfl (by decide) _ 1 [.iface 79 (.pointer (some ⟨w.heap.size, 0, none⟩))] rfl HO.out va m.length vc (cs.map fun c => .iface 79 (.pointer (some ⟨c, 0, none⟩))) rfl ?_ HS.out ?_ ?_ ?_ ?_; (simp; exact HN.out.1); (intro u hu; obtain ⟨c', _, rfl⟩ := List.mem_map.1 hu; rfl); omega; omega; intro v2 w2 hown hgrow hat hform; have A := args_step HN.out HB.out hgrow hform hown; have AN := Lib.hid A.1; have AB := Lib.hid A.2; obtain ⟨a2, c2, rfl⟩ := hform; clear hown hgrow hat A))
  have hsz2 := AB.out.size
  go_loopg [7, 8] (l.length - 1) (fun j a i wr => j < l.length ∧ i = .int .i64 j ∧ TArgs wr (s :: m) wr.heap.size (l.drop (j + 1)) a ∧ Below w.heap.size w wr)
  case atStart =>
    refine ⟨by omega, by go_num, ?_, AB.out⟩
    rw [List.drop_eq_nil_of_le (by omega)]
    have h := AN.out
    exact h
  case round =>
    obtain ⟨hj, rfl, hT, hbel⟩ := hrel
    obtain ⟨ta, tn, tc, rfl⟩ := hT.form
    obtain ⟨b, o, rfl, hcell⟩ := Strs.at' HC.out hbel gk hj
    have HT := Lib.hid hT
    have HL := Lib.hid hbel
    clear hT hbel
    have hszr := HL.out.size
    by_cases h0 : 0 < gk
    · obtain ⟨j, rfl⟩ : ∃ j, gk = j + 1 := ⟨gk - 1, by omega⟩
      obtain ⟨x, ex⟩ : ∃ x, x = l.getD (j + 1) ByteArray.empty := ⟨_, rfl⟩
      rw [← ex] at hcell
      have EX := Lib.hid ex
      clear ex
      go_wp2_with (first | (go_at_call 29; refine (nameC _ _).mono ?_; rintro e w' ⟨rfl, rfl⟩))
      go_roundg j
      case measure => omega
      case rel =>
        have B1 := (((Below.refl wr.heap.size wr).alloc (Nat.le_refl _) (.cells #[.string x] 81)).alloc (by simp) (.cells #[.iface 79 (.pointer (some ⟨wr.heap.size, 0, none⟩)), .slice ta tn tc] 96)).alloc (by simp; omega) (.cells #[.iface 94 (.pointer (some ⟨wr.heap.size + 1, 0, none⟩))] 45)
        refine ⟨by omega, by go_num, ?_, (((HL.out.alloc hszr _).alloc (by simp; omega) _).alloc (by simp; omega) _)⟩
        have e : l.drop (j + 1) = x :: l.drop (j + 1 + 1) := by
          rw [List.drop_eq_getElem_cons hj, EX.out]
          simp [List.getD_eq_getElem?_getD, hj]
        rw [e]
        refine ⟨wr.heap.size + 1, wr.heap.size, wr.heap.size + 1 + 1, .slice ta tn tc, rfl, by simp, ?_, ?_, ?_, TArgs.below B1 _ _ _ _ (Nat.le_succ _) HT.out⟩
        · have hh := World.cell?_alloc_at (w := (wr.alloc (.cells #[.string x] 81)).alloc (.cells #[.iface 79 (.pointer (some ⟨wr.heap.size, 0, none⟩)), .slice ta tn tc] 96)) #[.iface 94 (.pointer (some ⟨wr.heap.size + 1, 0, none⟩))] 45 (wr.heap.size + 1 + 1) 0 (by simp)
          exact hh.trans (by simp)
        · rw [Below.heap_alloc _ _ _ (by simp)]
          have hh := heap_alloc_new (wr.alloc (.cells #[.string x] 81)) (.cells #[.iface 79 (.pointer (some ⟨wr.heap.size, 0, none⟩)), .slice ta tn tc] 96)
          simpa using hh
        · rw [World.cell?_alloc_past _ _ _ (by simp; omega), World.cell?_alloc_past _ _ _ (by simp)]
          exact (World.cell?_alloc_at (w := wr) _ _ _ _ rfl).trans (by simp)
    · have e : gk = 0 := by omega
      subst e
      obtain ⟨x, ex⟩ : ∃ x, x = l.getD 0 ByteArray.empty := ⟨_, rfl⟩
      rw [← ex, Nat.add_zero] at hcell
      have EX := Lib.hid ex
      clear ex
      go_wp2_with (first | (go_at_call 29; refine (nameC _ _).mono ?_; rintro e w' ⟨rfl, rfl⟩))
      go_ret
      have B1 := ((Below.refl wr.heap.size wr).alloc (Nat.le_refl _) (.cells #[.string x] 81)).alloc (by simp) (.cells #[.iface 79 (.pointer (some ⟨wr.heap.size, 0, none⟩)), .slice ta tn tc] 96)
      refine ⟨wr.heap.size + 1, wr.heap.size, .slice ta tn tc, rfl, by simp, ?_, ?_, TArgs.below B1 _ _ _ _ (Nat.le_succ _) HT.out, (HL.out.alloc hszr _).alloc (by simp; omega) _⟩
      · have hh := heap_alloc_new (wr.alloc (.cells #[.string x] 81)) (.cells #[.iface 79 (.pointer (some ⟨wr.heap.size, 0, none⟩)), .slice ta tn tc] 96)
        simpa using hh
      · rw [World.cell?_alloc_past _ _ _ (by simp), ← EX.out]
        exact (World.cell?_alloc_at (w := wr) _ _ _ _ rfl).trans (by simp)
end Go.Proofs.Ytabnnnnheipldaa
