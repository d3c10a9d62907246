/- What several laws share: what a call that prints says; a name that is printed; conditions: fewer than 2^47 bytes. -/
import Derived.Test.YtkofdhhkhcdeoaaGreatPrint
import Derived.Test.YtkofdhhkhcdeoaaGreatNames
namespace Go.Proofs.YtkofdhhkhcdeoaaGreat
open Go.ChangeShapes Go.WideShapes Go.ChangeAt Go.RowKit

def Says (s : ByteArray) (w : World) (e : Ending) (w' : World) : Prop := e = .returned (.string s) ∧ Below w.heap.size w w'

theorem wr_len (st : St) (s : ByteArray) : (st.wr s).txt.length = st.txt.length + s.size := text_len st.txt s

theorem fresh_nil (p : Nat) (W : World) (v : Value) : Fresh p W [] v := fun x h => by cases h

theorem printsName (W : World) (p b : Nat) (s : ByteArray) (st : St) (hb : W.cell? ⟨b, 0, none⟩ = some (.string s)) (hbp : b < p) (hl : st.txt.length + s.size ≤ 140737488355328) (hlen : st.prt.length ≤ 1000000)
    (hf : Fresh p W st.prt (.iface 60 (.pointer (some ⟨b, 0, none⟩)))) : Prints p W (.iface 60 (.pointer (some ⟨b, 0, none⟩))) st (st.wr s) :=
  prints_of W p _ _ b _ st (st.wr s) (isName b) hf hlen (nameDoes W p b s { st with prt := st.prt ++ [_] } hb hbp hl)
end Go.Proofs.YtkofdhhkhcdeoaaGreat
