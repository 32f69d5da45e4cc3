import Derived.Test.Qxb6608902aGs
namespace Go.Proofs.Qxb6608902a
open Go.RowKit Go.Shelf

/-- The marks that loops over functions have left: each its own block, none with a call in it. -/
def Marks (B U : Nat) : List Deferred → World → Prop
  | [], _ => True
  | d :: ds, W => ∃ D, d = { target := .collected D, args := #[] } ∧ B ≤ D ∧ D < U ∧ W.heap[D]? = some (.deferred (some [])) ∧ d ∉ ds ∧ Marks B U ds W

theorem Marks.mono {B U U' : Nat} (hU : U ≤ U') : ∀ {ds : List Deferred} {W : World}, Marks B U ds W → Marks B U' ds W
  | [], _, _ => trivial
  | _ :: _, _, ⟨D, e, h1, h2, h3, h4, h5⟩ => ⟨D, e, h1, by omega, h3, h4, Marks.mono hU h5⟩

theorem Marks.keep {B U : Nat} {W W' : World} (hk : KeepsOthers W W') : ∀ {ds : List Deferred}, Marks B U ds W → Marks B U ds W'
  | [], _ => trivial
  | _ :: _, ⟨D, e, h1, h2, h3, h4, h5⟩ => ⟨D, e, h1, h2, hk.same _ _ h3 rfl, h4, Marks.keep hk h5⟩

theorem Marks.own {B U : Nat} {W W' : World} {row : Option Nat} (hg : W.grownBy W' row) (hr : ∀ r, row = some r → U ≤ r) : ∀ {ds : List Deferred}, Marks B U ds W → Marks B U ds W'
  | [], _ => trivial
  | _ :: _, ⟨D, e, h1, h2, h3, h4, h5⟩ => ⟨D, e, h1, h2, (hg.block D (heap_lt h3) (fun e => by have := hr D e.symm; omega)).trans h3, h4, Marks.own hg hr h5⟩

theorem Marks.lt {B U : Nat} : ∀ {ds : List Deferred} {W : World}, Marks B U ds W → ∀ D, ({ target := .collected D, args := #[] } : Deferred) ∈ ds → D < U
  | [], _, _, _, h => by cases h
  | _ :: _, _, ⟨D, e, h1, h2, h3, h4, h5⟩, D', h => by
    rcases List.mem_cons.1 h with h | h
    · rw [e] at h; cases h; exact h2
    · exact Marks.lt h5 D' h

theorem Marks.push {B U D : Nat} {ds : List Deferred} {W : World} (h : Marks B U ds W) (hB : B ≤ D) (hU : U ≤ D) (hD : W.heap[D]? = some (.deferred (some []))) : Marks B W.heap.size ({ target := .collected D, args := #[] } :: ds) W := by
  have := heap_lt hD
  exact ⟨D, rfl, hB, this, hD, fun hm => by have := h.lt D hm; omega, h.mono (by omega)⟩

theorem leaves_marks {F : Fence} {n : Nat} {P : Program} {fn : Func} {tmps : Array Value} {R : Ending → World → Prop} {B U : Nat} (I : World → Prop) (hI : ∀ W D, I W → W.heap[D]? = some (.deferred (some [])) → B ≤ D → I (W.putObj D (.deferred none))) (hfin : ∀ W, I W → LeavesIn F n P fn tmps R [] .returning W) :
    ∀ (ds : List Deferred) (W : World), Marks B U ds W → I W → LeavesInM F n P fn tmps R ds .returning W
  | [], W, _, h0 => hfin W h0
  | d :: ds, W, ⟨D, e, h1, h2, h3, h4, h5⟩, h0 => by
    subst e
    refine ⟨by simp, .inl ⟨D, _, rfl, run_takeDeferred h3, leaves_marks (U := U) I hI hfin ds _ ?_ (hI W D h0 h3 h1)⟩⟩
    clear h0 h1 h2
    induction ds with
    | nil => trivial
    | cons d' ds ih =>
      obtain ⟨D', e', g1, g2, g3, g4, g5⟩ := h5
      have hne : D' ≠ D := by rintro rfl; exact h4 (by rw [e']; exact List.mem_cons_self)
      refine ⟨D', e', g1, g2, ?_, g4, ih g5 (fun hm => h4 (List.mem_cons_of_mem _ hm))⟩
      exact ((grownBy_putObj' W D (.deferred none)).block D' (heap_lt g3) (fun e => hne (by cases e; rfl))).trans g3

/-- A store of what a cell holds leaves the world as it was. -/
theorem setCell_id (W : World) (b : Nat) (v : Value) (t : TypeId) (h : W.heap[b]? = some (.cells #[v] t)) : W.setCell ⟨b, 0, none⟩ v = W := by
  have hlt := heap_lt h
  have e : (W.setCell ⟨b, 0, none⟩ v).heap = W.heap := by
    apply Array.ext_getElem?
    intro j
    by_cases hj : j = b
    · subst hj; rw [heap_setCell_same W _ 0 _ _ _ h, h]; simp
    · exact Below.heap_setCell W _ v j hj
  show ({ W with heap := (W.setCell ⟨b, 0, none⟩ v).heap } : World) = W
  rw [e]
end Go.Proofs.Qxb6608902a
