import Derived.Test.Qxb6608902aSt
namespace Go.Proofs.Qxb6608902a
open Go.RowKit Go.Shelf

theorem below_grown {w w' : World} (h : Below w.heap.size w w') : w.grownBy w' none := ⟨h.os, h.tape, h.output, h.size, fun k hk _ => h.block k hk⟩

theorem Sat.start {X : Cx} {w wB : World} {st : St} (h : Sat X w st w) (hb : Below w.heap.size w wB) : Sat X wB st wB := by
  have h' := h.own (below_grown hb) (fun r e => by cases e)
  obtain ⟨R, cp, hS, hown, hC, hO, _, hR⟩ := h'
  obtain ⟨R', cp', hS', hown', _⟩ := h
  have e := (hb.block _ (heap_lt hS')).trans hS'
  rw [hS] at e
  simp only [sess, Option.some.injEq, Obj.cells.injEq, Array.mk.injEq, List.cons.injEq, Value.slice.injEq, Addr.mk.injEq, and_true, true_and] at e
  obtain ⟨rc, hrc⟩ := own_block hown'
  have := heap_lt hrc
  refine ⟨R, cp, hS, hown, hC, hO, Turn.refl _ _, .inl ?_⟩
  rcases hR with h | h
  · exact h
  · omega

theorem Sat.weaken {X : Cx} {w wB W : World} {st : St} (h : Sat X wB st W) (hb : Below w.heap.size w wB) : Sat X w st W := by
  obtain ⟨R, cp, hS, hown, hC, hO, hT, hR⟩ := h
  refine ⟨R, cp, hS, hown, hC, hO, (Turn.ofBelow hb).trans hT (fun _ _ h => h), ?_⟩
  have := hb.size
  rcases hR with h | h
  · exact .inl h
  · exact .inr (by omega)

theorem Fit.later {X : Cx} {w wB : World} (h : Fit X w) (hb : Below w.heap.size w wB) : Fit X wB := by
  obtain ⟨⟨gc, h1, h2⟩, hne, hs, hn, hbs⟩ := h
  exact ⟨⟨gc, (hb.block _ (heap_lt h1)).trans h1, h2⟩, hne, hs, hn, Nat.le_trans hbs hb.size⟩

theorem Sat.turn {X : Cx} {w0 W : World} {st : St} (h : Sat X w0 st W) : Turn (fun k => k = X.S ∨ k = X.C ∨ k = X.O ∨ k = X.R) w0 W := by
  obtain ⟨R, cp, hS, hown, hC, hO, hT, hR⟩ := h
  exact hT

/-- The group that is being reported: what the iterator reads lies in the loop's first world. -/
structure Grp (X : Cx) (w0 : World) (Bn o : Nat) (gp : Option Addr) (hg ex te : Bool) (gid : Int) (N : Nat) : Prop where
  bn : w0.cell? ⟨Bn, 0, none⟩ = some (.pointer (some ⟨X.G, o, none⟩))
  nb : ¬ (Bn = X.S ∨ Bn = X.C ∨ Bn = X.O ∨ Bn = X.R)
  id : w0.cell? ⟨X.G, o, none⟩ = some (.int .u32 gid)
  cs : w0.cell? ⟨X.G, o + 2, none⟩ = some (.slice (some ⟨X.C, 0, none⟩) N N)
  gr : w0.cell? ⟨X.G, o + 4, none⟩ = some (.pointer gp)
  at' : GrantAt w0 gp hg ex te
  ng : ∀ B, gp = some ⟨B, 0, none⟩ → ¬ (B = X.S ∨ B = X.C ∨ B = X.O ∨ B = X.R)

def msOf (L : List Ct) (j : Nat) : Int := ((L.map Ct.m)[j]?).getD 0
theorem msOf_some {L : List Ct} {j : Nat} {c : Ct} (h : L[j]? = some c) : msOf L j = c.m := by simp [msOf, h]
theorem msOf_congr {L L' : List Ct} (h : L.map Ct.m = L'.map Ct.m) : msOf L = msOf L' := by funext j; simp only [msOf, h]

theorem Sat.it {X : Cx} {w0 W : World} {st st0 : St} {Bn o : Nat} {gp : Option Addr} {hg ex te : Bool} {gid : Int} (h : Sat X w0 st W) (hf : Fit X w0) (hm : st.L.map Ct.m = st0.L.map Ct.m) (g : Grp X w0 Bn o gp hg ex te gid st0.L.length) :
    ItOK Bn X.G o X.C st0.L.length (msOf st0.L) gp hg ex te W := by
  have hT := h.turn
  refine ⟨hT.cell g.bn g.nb, hT.cell g.cs hf.ne, hT.cell g.gr hf.ne, ?_, ?_⟩
  · intro j hj
    obtain ⟨R, cp, hS, hown, hC, hO, _, hR⟩ := h
    have hl : st.L.length = st0.L.length := by simpa using congrArg List.length hm
    have hjl : j < st.L.length := by omega
    rw [cell_of_row _ _ _ _ _ _ hC]
    have := ctCells_get st.L j 2 st.L[j] (List.getElem?_eq_getElem hjl) (by omega)
    rw [← msOf_congr hm, msOf_some (List.getElem?_eq_getElem hjl)]
    simpa [Ct.cells] using this
  · rcases g.at' with h | ⟨B, e1, e2, e3, e4⟩
    · exact .inl h
    · exact .inr ⟨B, e1, e2, hT.cell e3 (g.ng B e1), hT.cell e4 (g.ng B e1)⟩

/-- What lies behind a whole run: as 'Sat', the asking slice turned. -/
def Fin (X : Cx) (w0 : World) (st : St) (na : Nat) (ys : List Value) (W : World) : Prop :=
  ∃ R c ak, W.heap[X.S]? = some (.cells (sess (.slice (some ⟨X.G, 0, none⟩) X.N X.N) X.tv st.cl (.slice (some ⟨R, 0, none⟩) st.n c)) 116) ∧
    W.ownsRow X.base 97 10 (.slice (some ⟨R, 0, none⟩) st.n c) st.n st.xs ∧ W.heap[X.C]? = some (.cells (ctCells st.L).toArray 82) ∧
    W.heap[X.O]? = some (.cells #[.bool st.im, X.tr, ak] 140) ∧ W.ownsRow X.base 22 1 ak na ys ∧
    Turn (fun k => k = X.S ∨ k = X.C ∨ k = X.O ∨ k = X.R ∨ X.ak.ownBlock = some k) w0 W ∧ (R = X.R ∨ w0.heap.size ≤ R)

theorem own_turn {w w' : World} {R : Nat → Prop} {base n e size : Nat} {v : Value} {xs : List Value} (h : w.ownsRow base e size v n xs) (hb : Turn R w w') (hr : ∀ k, v.ownBlock = some k → ¬ R k) : w'.ownsRow base e size v n xs := by
  obtain ⟨hl, h⟩ := h
  refine ⟨hl, ?_⟩
  rcases h with h | ⟨g, cap, cur, rfl, h2, h3, h4⟩
  · exact .inl h
  · exact .inr ⟨g, cap, cur, rfl, h2, hb.at h3 (hr g rfl), h4⟩

theorem own_typ {w : World} {base n e size : Nat} {v : Value} {xs : List Value} (h : w.ownsRow base e size v n xs) : ∀ k, v.ownBlock = some k → ∃ cs, w.heap[k]? = some (.cells cs e) := by
  intro k hk
  rcases h.2 with ⟨rfl, _⟩ | ⟨g, cap, cur, rfl, h2, h3, h4⟩
  · cases hk
  · cases hk; exact ⟨cur, h3⟩

/-- The asking slice lies apart from what turns. -/
theorem Sat.ask_ne {X : Cx} {w W : World} {st : St} (h : Sat X w st W) (hR : ∃ cs, W.heap[X.R]? = some (.cells cs 97)) {na : Nat} {v : Value} {ys : List Value} (ho : W.ownsRow X.base 22 1 v na ys) : ∀ k, v.ownBlock = some k → ¬ (k = X.S ∨ k = X.C ∨ k = X.O ∨ k = X.R) := by
  intro k hk
  obtain ⟨cs, hc⟩ := own_typ ho k hk
  obtain ⟨R, cp, hS, hown, hC, hO, hT, _⟩ := h
  obtain ⟨rc, hr⟩ := hR
  rintro (e | e | e | e)
  · exact neT hc hS (by decide) e
  · exact neT hc hC (by decide) e
  · exact neT hc hO (by decide) e
  · exact neT hc hr (by decide) e
end Go.Proofs.Qxb6608902a
