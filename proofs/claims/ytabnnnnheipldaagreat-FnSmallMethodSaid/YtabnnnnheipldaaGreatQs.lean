/- Qualifiers as a whole: what impl.words made, printed; conditions: fewer than 2^47 bytes. -/
import Derived.Test.YtabnnnnheipldaaGreatSm
import Derived.Test.YtabnnnnheipldaaGreatWords
namespace Go.Proofs.YtabnnnnheipldaaGreat
open Go.ChangeShapes Go.WideShapes Go.ChangeAt Go.RowKit

theorem qs_eta (st : St) (x : List Value) (l : List ByteArray) : ({ st with prt := x } : St).qs l = { st.qs l with prt := x } := by
  cases l with
  | nil => rfl
  | cons s l =>
    have key : ∀ (l : List ByteArray) (a : St), l.foldl (fun a y => (a.wb 32).wr y) { a with prt := x } = { l.foldl (fun a y => (a.wb 32).wr y) a with prt := x } := by
      intro l
      induction l with
      | nil => intro a; rfl
      | cons s l ih => intro a; exact ih ((a.wb 32).wr s)
    exact key l (st.wr s)

theorem printsQuals (W : World) (p b : Nat) (l : List ByteArray) (st : St) (hq : QualsAt W p b l) (hl : st.txt.length + sumLen l ≤ 140737488300000) (hlen : st.prt.length ≤ 1000000)
    (hf : Fresh p W st.prt (.iface 70 (.pointer (some ⟨b, 0, none⟩)))) : Prints p W (.iface 70 (.pointer (some ⟨b, 0, none⟩))) st (st.qs l) := by
  have h := prints_of W p _ _ b _ st (st.qs l) (isQualifiers b) hf hlen (by
    have := qualifiersDoes W p b l { st with prt := st.prt ++ [.iface 70 (.pointer (some ⟨b, 0, none⟩))] } hq hl
    rw [qs_eta] at this
    exact this)
  have e : ({ st.qs l with prt := st.prt } : St) = st.qs l := by
    have := (qs_prt st l).1
    rw [← this]
  rw [e] at h
  exact h

theorem WordsAt.quals {w W : World} {b : Nat} {l : List ByteArray} (h : WordsAt w b l) (hb : Below w.heap.size w W) (hl : l.length ≤ 1000000) : QualsAt W W.heap.size b l := by
  obtain ⟨v, cs, hbl, ⟨hlen, hown, hel⟩, hlt⟩ := h
  have hsz := hb.size
  have cellW : ∀ k o, k < w.heap.size → W.cell? ⟨k, o, none⟩ = w.cell? ⟨k, o, none⟩ := fun k o hk => hb.cell (p := ⟨k, o, none⟩) hk
  refine ⟨by omega, ?_⟩
  have c0 : W.cell? ⟨b, 0, none⟩ = some v := (cellW b 0 hlt).trans (cell_of_one hbl)
  rcases hown.2 with ⟨rfl, e0⟩ | ⟨g, cap, cur, rfl, hNg, hg, _, _, _, ht⟩
  · have hl0 : l.length = 0 := by omega
    exact ⟨none, 0, by rw [c0, hl0], hl, fun i hi => by omega⟩
  · have hgl := (Array.getElem?_eq_some_iff.1 hg).1
    refine ⟨some ⟨g, 0, none⟩, cap, by rw [c0, hlen], hl, fun i hi => ?_⟩
    have hi' : i < cs.length := by omega
    obtain ⟨⟨h1, h2, h3⟩, h4⟩ := hel i cs[i] (List.getElem?_eq_getElem hi')
    refine ⟨g, cs[i], rfl, by omega, by omega, ?_, ?_, ?_⟩
    · rw [cellW g i hgl, cell_of_row w g i cur _ (0, 0) hg]
      have h2 : (cur.toList.take (cs.length * 1))[i]? = (cs.map fun c => Value.iface 73 (.pointer (some ⟨c, 0, none⟩)))[i]? := by rw [ht]
      rw [List.getElem?_take_of_lt (by omega), List.getElem?_map, List.getElem?_eq_getElem hi'] at h2
      simpa using h2
    · rw [cellW _ 0 h3, cell_of_row w _ 0 _ _ (0, 0) h1]; rfl
    · rw [cellW _ 1 h3, cell_of_row w _ 1 _ _ (0, 0) h1]; rfl

theorem wordsN (v : Value) (l : List ByteArray) (w : World) (B : Nat) (hB : w.heap.size = B) (h : Strs w v l) (hm : l.length ≤ 1000000) :
    Calls Tryz.prog 16 #[v] w fun e w' => e = .returned (.iface 70 (.pointer (some ⟨B, 0, none⟩))) ∧ WordsAt w' B l ∧ Below B w w' := by
  subst hB
  exact wordsC v l w h hm

end Go.Proofs.YtabnnnnheipldaaGreat
