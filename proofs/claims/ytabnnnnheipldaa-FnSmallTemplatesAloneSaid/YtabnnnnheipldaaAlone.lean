/- Templates printed without their arguments: Template.print, ASTToString with the option NoTemplateParams, impl.PrintTemplatesAlone; conditions: fewer than 2^47 bytes. -/
import Derived.Test.YtabnnnnheipldaaSpecT
namespace Go.Proofs.Ytabnnnnheipldaa
open Go.ChangeShapes Go.WideShapes Go.ChangeAt Go.RowKit

set_option maxRecDepth 100000 in
set_option maxHeartbeats 4000000 in
theorem templateAlone (W : World) (p b : Nat) (nm args : Value) (st s1 : St) (h0 : W.cell? ⟨b, 0, none⟩ = some nm) (h1 : W.cell? ⟨b, 1, none⟩ = some args) (hb : b < p)
    (hN : Prints p W nm { st with inn := [] } s1) (htp : s1.tp = false) :
    Does p W 115 (.pointer (some ⟨b, 0, none⟩)) st { s1 with inn := st.inn } := by
  intro w sl hlo h
  obtain ⟨ia, ic, ei⟩ := h.innForm
  have hmf : ∀ (fn : Fn) (first cap : Array Value) (w : World), (Instr.makeFunc fn first cap).run Try.prog w = .ok (.func fn first cap) w := fun _ _ _ _ => rfl
  have c8 := h.c8
  have f8 := h.free 8
  have hlt := h.lt
  have c0 := (hlo.cell (o := 0) hb).trans h0
  have c1 := (hlo.cell (o := 1) hb).trans h1
  rw [ei] at c8
  have HO := Lib.hid (h.holdInn (.cells #[.pointer (some ⟨p, 0, none⟩)] 77) (.cells #[.slice ia st.inn.length ic] 73))
  have H := Lib.hid h
  have L := Lib.hid hlo
  have N := Lib.hid hN
  have EI := Lib.hid ei
  have W0 := Lib.hid h0
  clear h hlo hN ei h0 h1
  go_enter_defers Try.func115, Try.ntmps115
  go_wp2_with fail
  generalize ((w.setCell ⟨p, 8, none⟩ (.slice none 0 0)).alloc (.cells #[.pointer (some ⟨p, 0, none⟩)] 77)).alloc (.cells #[.slice ia st.inn.length ic] 73) = w1 at *
  have k0 := ((HO.out.fr.lo H.out L.out).cell (o := 0) hb).trans W0.out
  have cB := cell_of_one HO.out.b1
  clear c8 f8 c0 c1
  go_still_tail 5, (by kernel_rfl)
  change wpList _ _ _ _ _ w1.drew
  have HD := Lib.hid HO.out.drew
  clear HO cB k0
  generalize w1.drew = w2 at *
  have cB := cell_of_one HD.out.b1
  have L2 := Lib.hid (HD.out.fr.lo H.out L.out)
  go_wp2_with fail
  refine (N.out w2 _ L2.out HD.out.at').mono ?_
  rintro e w3 ⟨rfl, sl3, h3, f3⟩
  have g0 := h3.c0
  rw [htp] at g0
  have H3 := Lib.hid h3
  have F3 := Lib.hid f3
  have cB3 := cell_of_one (new_far H.out rfl (Nat.le_refl _) HD.out.b1 f3)
  clear h3 f3 cB
  go_wp2_with fail
  have cH := cell_of_one (new_far H.out rfl (Nat.le_succ _) HD.out.b2 F3.out)
  refine leaves_cons (f := 116) (args := #[.pointer (some ⟨w.heap.size + 1, 0, none⟩), .pointer (some ⟨w.heap.size, 0, none⟩)]) (by simp) (by simp [go_sem]) ?_
  refine (tplClose _ _ _ p ia st.inn.length ic _ .returning cH cB3 H3.out.c8 (H3.out.free 8)).mono ?_
  rintro e u' w'' ⟨rfl, rfl, rfl⟩
  have R := H.out.restore HD.out.low (fun k e => by cases e) HD.out.fr F3.out H3.out
  rw [EI.out] at R
  exact ⟨_, results_none rfl _ _ _, rfl, _, R.1, R.2⟩

set_option maxHeartbeats 1000000 in
set_option maxRecDepth 100000 in
/-- ASTToString with one option: NoTemplateParams. -/
theorem toStringAloneC (w : World) (v : Value) (t b k g c : Nat) (st' : St) (ha : IsAst v t b k) (hg : w.cell? ⟨g, 0, none⟩ = some (.int .i64 1)) (h : Does w.heap.size w k (.pointer (some ⟨b, 0, none⟩)) { st0 with tp := false } st') :
    Calls Try.prog 28 #[v, .slice (some ⟨g, 0, none⟩) 1 c] w (Said w.heap.size st'.txt w) := by
  obtain ⟨rfl, hnil, hmet, hcf⟩ := ha
  have D := Lib.hid h
  clear h
  go_enter Try.func28, Try.ntmps28
  go_wp2_with fail
  refine wp_loop_rounds 2 ?_
  rw [rounds_succ]
  go_wp2_with fail
  rw [rounds_succ]
  go_wp2_with fail
  refine (D.out _ _ (loStart w _) (psStart w false)).mono ?_
  rintro e w1 ⟨rfl, sl1, h1, f1⟩
  have hs := stringC w1 w.heap.size st' sl1 h1
  have H := Lib.hid hs
  have B1 := Lib.hid (belowStart (psStart w false) f1)
  clear hs h1 f1
  go_wp2_with (first | (go_at_call 37; refine H.out.mono ?_; rintro e w2 ⟨rfl, hb2⟩; have B2 := Lib.hid hb2; clear hb2))
  go_ret
  exact ⟨rfl, B1.out.trans B2.out⟩

set_option maxRecDepth 100000 in
set_option maxHeartbeats 1000000 in
theorem printAloneC (v vm : Value) (x : ByteArray) (m : List ByteArray) (s : ByteArray) (w : World) (h : Strs w v [x]) (hm : Strs w vm m) (hm1 : m.length ≤ 1000) (hx : x.size ≤ 2147483647) :
    Calls Try.prog 27 #[v, .string s, vm] w (Says x w) := by
  have ha := Lib.hid (templatesC v vm [x] m s w h hm (by simp) (by simp) (by omega))
  clear h hm
  go_enter Try.func27, Try.ntmps27
  go_wp2_with fail
  refine ha.out.mono ?_
  rintro e w1 ⟨b, nb, v', rfl, hb, hblk, hnb, hT, hbel⟩
  have hnb' : w1.cell? ⟨nb, 0, none⟩ = some (.string x) := hnb
  have hblk2 : (w1.alloc (.cells #[.int .i64 1] 65)).heap[b]? = some (.cells #[.iface 79 (.pointer (some ⟨nb, 0, none⟩)), v'] 96 (0, 0)) := (Below.heap_alloc _ _ _ hb).trans hblk
  have hnbl : nb < w1.heap.size := World.block_lt_of_cell? w1 _ hnb
  have hd := templateAlone (w1.alloc (.cells #[.int .i64 1] 65)) (w1.alloc (.cells #[.int .i64 1] 65)).heap.size b _ _ { st0 with tp := false } (({ st0 with tp := false, inn := [] } : St).wr x) (by rw [cell_of_row _ b 0 _ _ (0, 0) hblk2]; rfl) (by rw [cell_of_row _ b 1 _ _ (0, 0) hblk2]; rfl) (by simp; omega)
    (printsName _ _ nb x _ ((World.cell?_alloc_past _ _ _ hnbl).trans hnb') (by simp; omega) (by show 0 + _ ≤ _; omega) (by show 0 ≤ _; omega) (fresh_nil _ _ _)) rfl
  have K := Lib.hid (toStringAloneC (w1.alloc (.cells #[.int .i64 1] 65)) _ _ b _ w1.heap.size 1 _ (isTemplate b) ((World.cell?_alloc_at (w := w1) _ _ _ _ rfl).trans (by simp)) hd)
  have B1 := Lib.hid hbel
  clear ha hT hd hblk hnb hbel hblk2 hnb'
  go_wp2_with fail
  refine K.out.mono ?_
  rintro e w2 ⟨rfl, hb2⟩
  have B2 := Lib.hid hb2
  clear hb2 K
  go_wp2_with fail
  go_ret
  refine ⟨?_, (B1.out.alloc B1.out.size _).trans (B2.out.mono (by have := B1.out.size; simp; omega))⟩
  refine congrArg (fun z => Ending.returned (Value.string z)) ?_
  apply ByteArray.ext
  apply Array.ext'
  simp [St.wr, st0]
end Go.Proofs.Ytabnnnnheipldaa
