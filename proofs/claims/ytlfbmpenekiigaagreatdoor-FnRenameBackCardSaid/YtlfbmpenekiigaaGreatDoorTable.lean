/- Tables of texts among the package's variables: from what they read as to their cells, and that they stay; conditions: none. -/
import Derived.Test.YtlfbmpenekiigaaGreatDoorRows
import Derived.ProofKit
import Derived.OpenShut
import Derived.LaidLaws
import Derived.LaidMore
import Derived.Handed
import Derived.Carry
import Derived.ChangeVars
import Derived.ChangeOld
import Derived.Stop.Joined
namespace Go.Proofs.YtlfbmpenekiigaaGreatDoor
open Go.ChangeShapes Go.WideShapes Go.ChangeAt Go.RowKit

def litsT {H : Type} (L : List (List UInt8)) : DataW H := .agg (L.map fun l => .lit (.string l))

theorem table_cells {H : Type} {enc : TypeId × Value → H} {P : Program} {w : World} {base : Nat} {spare : Nat → Bool} {held : Bool} {fuel : Nat} {t e n : Nat} {cs : List Value} {L : List (List UInt8)} {p : List MemPlace}
    (ht : P.underlying t = some (.array n e)) (he : P.underlying e = some .string) (hc : P.cellsOf e = 1) (h : DataW.trod enc P w base spare held fuel t cs = some (litsT L, p)) :
    ∀ i, i < n → ∃ s : ByteArray, cs[i]? = some (.string s) ∧ L[i]? = some s.data.toList ∧ s.size ≤ maxLen := by
  obtain ⟨xs, m, _, hx, _, hl, hf⟩ := DataW.trod_array ht h
  intro i hi
  have h1 := hf i hi
  rw [hc, Nat.mul_one] at h1
  have hxi : xs[i]? = some (xs[i]'(by omega)) := List.getElem?_eq_getElem (by omega)
  rw [hxi] at h1
  obtain ⟨s, e1, e2, hs⟩ := DataW.trod_string he h1
  refine ⟨s, ?_, ?_, hs⟩
  · have : (((cs.drop i).take 1)[0]?) = some (.string s) := by rw [e1]; rfl
    simpa using this
  · have hL : L.map (fun l => (DataW.lit (.string l) : DataW H)) = xs.map (·.1) := by
      have := (Prod.mk.inj hx).1
      simpa [litsT] using this
    have h2 : (xs.map (·.1))[i]? = some (.lit (.string s.data.toList)) := by rw [List.getElem?_map, hxi, e2]; rfl
    rw [← hL, List.getElem?_map] at h2
    cases hLi : L[i]? with
    | none => rw [hLi] at h2; cases h2
    | some l =>
      rw [hLi] at h2
      have : (DataW.lit (.string l) : DataW H) = .lit (.string s.data.toList) := by simpa using h2
      injection this with this
      injection this with this
      rw [this]

theorem var_below {P : Program} {w w' : World} {n : String} {cs : Array Value} (h : w.var? P n = some cs) (hb : Below w.heap.size w w') : w'.var? P n = some cs := by
  unfold World.var? at h ⊢
  obtain ⟨g, hg, h⟩ := Option.bind_eq_some_iff.1 h
  rw [hg, Option.bind_some]
  have hlt : g < w.heap.size := by
    cases hh : w.heap[g]? with
    | none => rw [hh] at h; cases h
    | some o => exact (Array.getElem?_eq_some_iff.1 hh).1
  rw [hb.block g hlt]
  exact h

/-- Variables read as they did, below the old memory's end. -/
theorem vars_below {H : Type} {enc : TypeId × Value → H} {P : Program} (hl : laidOutB P = true) {w w' : World} (hb : Below w.heap.size w w') : ∀ {ns : List String} {ds : List (DataW H)} {ps : List MemPlace},
    (∀ n ∈ ns, ∀ g t, P.globalNamed n = some g → (P.globals[g]?).map (·.type) = some t → P.readableRec t = true ∧ t < P.types.size) →
    DataW.TrodVars enc P w (fun _ => true) ns ds ps → DataW.TrodVars enc P w' (fun b => decide (b < w.heap.size)) ns ds ps
  | [], [], _, _, h => h
  | n :: ns, d :: ds, ps, hr, ⟨g, t, cs, fuel, p, q, h1, h2, h3, h4, h5, e⟩ => by
    obtain ⟨r1, r2⟩ := hr n (by simp) g t h1 h2
    have h6 : DataW.Trod enc P w 0 (fun _ => true) true t (.agg cs) d p := ⟨fuel, h4⟩
    obtain ⟨fuel', h7⟩ := Below.trod hl r1 r2 h6 hb (DataW.trod_lt fuel _ _ _ h4)
    exact ⟨g, t, cs, fuel', p, q, h1, h2, var_below h3 hb, h7, vars_below hl hb (fun m hm => hr m (by simp [hm])) h5, e⟩
end Go.Proofs.YtlfbmpenekiigaaGreatDoor
