import Derived.Test.Qxb6608902aArm
namespace Go.Proofs.Qxb6608902a
open Go.RowKit Go.Shelf

/-- What a session's groups are. -/
structure Gd where
  gid : Nat → Int
  Cb : Nat → Nat
  Ls : Nat → List Ct
  tg : Nat → Value
  gp : Nat → Option Addr
  hg : Nat → Bool
  ex : Nat → Bool
  te : Nat → Bool

/-- A grant that lies in a block of its own, or none. -/
def GrantT (w : World) (gp : Option Addr) (hg ex te : Bool) : Prop :=
  (gp = none ∧ hg = false) ∨ (∃ B cs, gp = some ⟨B, 0, none⟩ ∧ hg = true ∧ w.heap[B]? = some (.cells cs 134) ∧ cs[8]? = some (.bool ex) ∧ cs[3]? = some (.bool te))

theorem GrantT.at {w : World} {gp : Option Addr} {hg ex te : Bool} (h : GrantT w gp hg ex te) : GrantAt w gp hg ex te := by
  rcases h with h | ⟨B, cs, e1, e2, e3, e4, e5⟩
  · exact .inl h
  · exact .inr ⟨B, e1, e2, by rw [cell_of_row _ _ _ _ _ _ e3]; exact e4, by rw [cell_of_row _ _ _ _ _ _ e3]; exact e5⟩

theorem GrantT.ne {w : World} {gp : Option Addr} {hg ex te : Bool} (h : GrantT w gp hg ex te) {k : Nat} {cs : Array Value} {t : TypeId} (hk : w.heap[k]? = some (.cells cs t)) (ht : t ≠ 134) : ∀ B, gp = some ⟨B, 0, none⟩ → B ≠ k := by
  intro B hB
  rcases h with ⟨h, _⟩ | ⟨B', cs', e1, e2, e3, e4, e5⟩
  · rw [h] at hB; cases hB
  · rw [e1] at hB; cases hB; exact neT e3 hk (Ne.symm ht)

theorem GrantT.turn {w w' : World} {R : Nat → Prop} {gp : Option Addr} {hg ex te : Bool} (h : GrantT w gp hg ex te) (hT : Turn R w w') (hn : ∀ B, gp = some ⟨B, 0, none⟩ → ¬ R B) : GrantT w' gp hg ex te := by
  rcases h with h | ⟨B, cs, e1, e2, e3, e4, e5⟩
  · exact .inl h
  · exact .inr ⟨B, cs, e1, e2, hT.at e3 (hn B e1), e4, e5⟩

/-- The groups, as they lie at G (N of them). -/
structure Gs (G N : Nat) (D : Gd) (w : World) : Prop where
  blk : ∃ gc, w.heap[G]? = some (.cells gc 89) ∧ ∀ k, k < N → gc[k * 5]? = some (.int .u32 (D.gid k)) ∧ gc[k * 5 + 2]? = some (.slice (some ⟨D.Cb k, 0, none⟩) (D.Ls k).length (D.Ls k).length) ∧ gc[k * 5 + 3]? = some (D.tg k) ∧ gc[k * 5 + 4]? = some (.pointer (D.gp k))
  cs : ∀ k, k < N → w.heap[D.Cb k]? = some (.cells (ctCells (D.Ls k)).toArray 82)
  inj : ∀ j k, j < N → k < N → j ≠ k → D.Cb j ≠ D.Cb k
  gr : ∀ k, k < N → GrantT w (D.gp k) (D.hg k) (D.ex k) (D.te k)
  sum : lsum (fun k => (D.Ls k).length) N ≤ 1048576
  nn : N ≤ 1048576

theorem lsum_ge (ln : Nat → Nat) : ∀ (N k : Nat), k < N → ln k ≤ lsum ln N
  | 0, _, h => by omega
  | N + 1, k, h => by
    simp only [lsum]
    by_cases e : k = N
    · subst e; omega
    · have := lsum_ge ln N k (by omega); omega

theorem Gs.len {G N : Nat} {D : Gd} {w : World} (h : Gs G N D w) {k : Nat} (hk : k < N) : (D.Ls k).length ≤ 1048576 := by
  have := lsum_ge (fun k => (D.Ls k).length) N k hk
  have := h.sum
  omega

/-- The context of a run over group i. -/
def cx (S G N O R base : Nat) (tv tr ak : Value) (D : Gd) (i : Nat) : Cx :=
  { S := S, G := G, N := N, C := D.Cb i, O := O, R := R, base := base, tv := tv, tr := tr, ak := ak, ln := fun k => (D.Ls k).length, cp := fun k => (D.Ls k).length, ga := fun k => some ⟨D.Cb k, 0, none⟩ }

theorem Gs.fit {S G N O R base i : Nat} {tv tr ak : Value} {D : Gd} {w : World} {st : St} (h : Gs G N D w) (hs : Sat (cx S G N O R base tv tr ak D i) w st w) (hR : ∃ cs, w.heap[R]? = some (.cells cs 97)) (hb : base ≤ w.heap.size) : Fit (cx S G N O R base tv tr ak D i) w := by
  obtain ⟨gc, h1, h2⟩ := h.blk
  obtain ⟨R', c', eS, eR, eC, eO, _⟩ := hs
  obtain ⟨rc, hr⟩ := hR
  refine ⟨⟨gc, h1, fun k hk => (h2 k hk).2.1⟩, ?_, h.sum, h.nn, hb⟩
  rintro (e | e | e | e)
  · exact neT h1 eS (by decide) e
  · exact neT h1 eC (by decide) e
  · exact neT h1 eO (by decide) e
  · exact neT h1 hr (by decide) e

/-- A run goes on from its own world: the report's first block is then the one that is at hand. -/
theorem Sat.again {X : Cx} {w0 W : World} {st : St} (h : Sat X w0 st W) : ∃ R, (R = X.R ∨ w0.heap.size ≤ R) ∧ (∃ cs, W.heap[R]? = some (.cells cs 97)) ∧ Sat { X with R := R } W st W ∧ ∀ st' W', Sat { X with R := R } W st' W' → Sat X w0 st' W' := by
  obtain ⟨R, cp, hS, hown, hC, hO, hT, hR⟩ := h
  obtain ⟨rc, hrc⟩ := own_block hown
  refine ⟨R, hR, ⟨rc, hrc⟩, ⟨R, cp, hS, hown, hC, hO, Turn.refl _ _, .inl rfl⟩, ?_⟩
  rintro st' W' ⟨R2, c2, hS2, ho2, hC2, hO2, hT2, hR2⟩
  refine ⟨R2, c2, hS2, ho2, hC2, hO2, hT.trans hT2 ?_, ?_⟩
  · rintro k hk (e | e | e | e)
    · exact .inl e
    · exact .inr (.inl e)
    · exact .inr (.inr (.inl e))
    · dsimp only at e
      rcases hR with h | h
      · exact .inr (.inr (.inr (by omega)))
      · omega
  · have := hT.size
    dsimp only at hR2
    rcases hR2 with h | h
    · subst h; exact hR
    · exact .inr (by omega)
end Go.Proofs.Qxb6608902a
