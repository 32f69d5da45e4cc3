import Derived.Test.Qxb6608902aTwo
import Derived.Test.Qxb6608902aOut
namespace Go.Proofs.Qxb6608902a
open Go.RowKit Go.Shelf

theorem own_base {w : World} {base base' n e size : Nat} {v : Value} {xs : List Value} (h : w.ownsRow base' e size v n xs) (hb : base ≤ base') : w.ownsRow base e size v n xs := by
  refine ⟨h.1, ?_⟩
  rcases h.2 with h | ⟨g, cap, cur, h1, h2, h3⟩
  · exact .inl h
  · exact .inr ⟨g, cap, cur, h1, by omega, h3⟩

theorem both_of {w0 wB w2 w3 w4 w5 : World} {rgs ms : List Rg} {i : Nat} {g : Rg} {typ : ByteArray} {closed : Int} {prior : List Rc} {im : Bool} {ys : List Int} {S1 G1 R1 O1 S2 G2 R2 O2 : Nat} {tva1 tb1 tva2 tb2 : Option Addr} {ak1 ak2 : Value} {Cb1 Tb1 Cb2 Tb2 : Nat → Nat} {gp1 gp2 : Nat → Option Addr} (hl : ms.length = rgs.length) (b0 : w0.heap.size ≤ wB.heap.size)
    (hS1 : w2.heap[S1]? = some (.cells (sess (.slice (some ⟨G1, 0, none⟩) rgs.length rgs.length) (.slice tva1 0 0) closed (.slice (some ⟨R1, 0, none⟩) prior.length prior.length)) 116)) (hG1 : w2.heap[G1]? = some (.cells (gRow rgs Cb1 Tb1 gp1 rgs.length).toArray 89)) (hB1 : Built wB.heap.size rgs rgs.length Cb1 Tb1 gp1 w2) (hR1 : w2.ownsRow wB.heap.size 97 10 (.slice (some ⟨R1, 0, none⟩) prior.length prior.length) prior.length (rcCells prior)) (lS1 : wB.heap.size ≤ S1) (bel2 : Below wB.heap.size wB w2)
    (hS2 : w3.heap[S2]? = some (.cells (sess (.slice (some ⟨G2, 0, none⟩) rgs.length rgs.length) (.slice tva2 0 0) closed (.slice (some ⟨R2, 0, none⟩) prior.length prior.length)) 116)) (hG2 : w3.heap[G2]? = some (.cells (gRow ms Cb2 Tb2 gp2 rgs.length).toArray 89)) (hB2 : Built w2.heap.size ms rgs.length Cb2 Tb2 gp2 w3) (hR2 : w3.ownsRow w2.heap.size 97 10 (.slice (some ⟨R2, 0, none⟩) prior.length prior.length) prior.length (rcCells prior)) (lS2 : w2.heap.size ≤ S2) (bel3 : Below w2.heap.size w2 w3)
    (lO1 : w3.heap.size ≤ O1) (hO1 : w4.heap[O1]? = some (.cells #[.bool im, .slice tb1 0 0, ak1] 140)) (hA1 : w4.ownsRow w3.heap.size 22 1 ak1 ys.length (u32s ys)) (bel4 : Below w3.heap.size w3 w4)
    (lO2 : w4.heap.size ≤ O2) (hO2 : w5.heap[O2]? = some (.cells #[.bool im, .slice tb2 0 0, ak2] 140)) (hA2 : w5.ownsRow w4.heap.size 22 1 ak2 ys.length (u32s ys)) (bel5 : Below w4.heap.size w4 w5) :
    Both w0 rgs ms i g typ closed prior im ys S1 G1 R1 O1 S2 G2 R2 O2 w5 := by
  have z2 := bel2.size
  have z3 := bel3.size
  have z4 := bel4.size
  have z5 := bel5.size
  have b35 : Below w3.heap.size w3 w5 := bel4.trans (bel5.mono z4)
  have b25 : Below w2.heap.size w2 w5 := bel3.trans (b35.mono z3)
  refine ⟨wB.heap.size, w2.heap.size, tva1, tb1, tva2, tb2, ak1, ak2, Cb1, Tb1, Cb2, Tb2, gp1, gp2, ⟨?_, ?_, ?_, ?_, ?_, ?_, ?_⟩, ⟨?_, ?_, ?_, ?_, ?_, ?_, ?_⟩, ?_, ?_, ?_, ?_, ?_, by omega, by omega, by omega, by omega, by omega, by omega⟩
  · exact (b25.block _ (heap_lt hS1)).trans hS1
  · exact (b25.block _ (heap_lt hG1)).trans hG1
  · exact hB1.later b25
  · exact own_later97 hR1 b25
  · exact (bel5.block _ (heap_lt hO1)).trans hO1
  · exact own_base (own_later97 hA1 bel5) (by omega)
  · omega
  · rw [hl]; exact (b35.block _ (heap_lt hS2)).trans hS2
  · rw [hl]; exact (b35.block _ (heap_lt hG2)).trans hG2
  · rw [hl]; exact hB2.later b35
  · exact own_later97 hR2 b35
  · exact hO2
  · exact own_base hA2 (by omega)
  · omega
  · have := heap_lt hS1; omega
  · have h1 := (hR1.lt R1 rfl).2
    have h2 := (hR2.lt R2 rfl).1
    omega
  · have := heap_lt hO1; omega
  · intro j k hj hk
    obtain ⟨g1, hg1⟩ : ∃ g', rgs[j]? = some g' := ⟨_, List.getElem?_eq_getElem hj⟩
    obtain ⟨g2, hg2⟩ : ∃ g', ms[k]? = some g' := ⟨_, List.getElem?_eq_getElem (by omega)⟩
    have h1 := heap_lt (hB1.1 j g1 hj hg1).2.1
    have h2 := (hB2.1 k g2 hk hg2).1
    omega
  · intro k h1 h2
    have h3 := (hA1.lt k h1).2
    have h4 := (hA2.lt k h2).1
    omega
end Go.Proofs.Qxb6608902a
