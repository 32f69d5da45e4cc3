import Derived.Test.Qxb6608902aPln
namespace Go.Proofs.Qxb6608902a
open Go.RowKit Go.Shelf

/-- A session and its outcome, as they are built. -/
structure Ses (base : Nat) (rgs : List Rg) (closed : Int) (prior : List Rc) (im : Bool) (ys : List Int) (S G R O : Nat) (tva tb : Option Addr) (ak : Value) (Cb Tb : Nat → Nat) (gp : Nat → Option Addr) (W : World) : Prop where
  s : W.heap[S]? = some (.cells (sess (.slice (some ⟨G, 0, none⟩) rgs.length rgs.length) (.slice tva 0 0) closed (.slice (some ⟨R, 0, none⟩) prior.length prior.length)) 116)
  g : W.heap[G]? = some (.cells (gRow rgs Cb Tb gp rgs.length).toArray 89)
  b : Built base rgs rgs.length Cb Tb gp W
  r : W.ownsRow base 97 10 (.slice (some ⟨R, 0, none⟩) prior.length prior.length) prior.length (rcCells prior)
  o : W.heap[O]? = some (.cells #[.bool im, .slice tb 0 0, ak] 140)
  a : W.ownsRow base 22 1 ak ys.length (u32s ys)
  le : base ≤ W.heap.size

def stOf (g : Rg) (closed : Int) (prior : List Rc) (im : Bool) : St := { L := g.cs, cl := closed, n := prior.length, xs := rcCells prior, im := im }
def cxOf (base : Nat) (rgs : List Rg) (i S G R O : Nat) (tva tb : Option Addr) (ak : Value) (Cb Tb : Nat → Nat) (gp : Nat → Option Addr) : Cx := cx S G rgs.length O R base (.slice tva 0 0) (.slice tb 0 0) ak (gdOf rgs Cb Tb gp) i

/-- The state behind the run over group g. -/
def endOf (g : Rg) (d : Int) (typ : ByteArray) (closed : Int) (prior : List Rc) (im : Bool) : St := stps g.id d typ (stOf g closed prior im) (openIdx (msOf g.cs) g.hg g.ex g.te g.cs.length)

section
variable {base : Nat} {rgs : List Rg} {closed : Int} {prior : List Rc} {im : Bool} {ys : List Int} {S G R O : Nat} {tva tb : Option Addr} {ak : Value} {Cb Tb : Nat → Nat} {gp : Nat → Option Addr} {W : World}

theorem Ses.later (h : Ses base rgs closed prior im ys S G R O tva tb ak Cb Tb gp W) {W' : World} (hb : Below W.heap.size W W') : Ses base rgs closed prior im ys S G R O tva tb ak Cb Tb gp W' :=
  ⟨(hb.block _ (heap_lt h.s)).trans h.s, (hb.block _ (heap_lt h.g)).trans h.g, h.b.later hb, own_later97 h.r hb, (hb.block _ (heap_lt h.o)).trans h.o, own_later97 h.a hb, Nat.le_trans h.le hb.size⟩

theorem Ses.sat (h : Ses base rgs closed prior im ys S G R O tva tb ak Cb Tb gp W) {i : Nat} {g : Rg} (hi : rgs[i]? = some g) : Sat (cxOf base rgs i S G R O tva tb ak Cb Tb gp) W (stOf g closed prior im) W :=
  ⟨R, prior.length, h.s, h.r, (h.b.1 i g (List.getElem?_eq_some_iff.1 hi).1 hi).2.1, h.o, Turn.refl _ _, .inl rfl⟩

theorem Ses.fit (h : Ses base rgs closed prior im ys S G R O tva tb ak Cb Tb gp W) {i : Nat} {g : Rg} (hi : rgs[i]? = some g) (hs : lsum (clen rgs) rgs.length ≤ 1048576) (hn : rgs.length ≤ 1048576) : Fit (cxOf base rgs i S G R O tva tb ak Cb Tb gp) W :=
  (gs_of h.g h.b hs hn).fit (h.sat hi) (own_block h.r) h.le

theorem run19 (h : Ses base rgs closed prior im ys S G R O tva tb ak Cb Tb gp W) {i : Nat} {g : Rg} (hi : rgs[i]? = some g) (hs : lsum (clen rgs) rgs.length ≤ 1048576) (hn : rgs.length ≤ 1048576) (hp : prior.length ≤ 1048576) (hy : ys.length ≤ 1048576) (d : Int) (hd : -4611686018427387904 ≤ d ∧ d ≤ 4611686018427387904) (typ : ByteArray) (ask : Bool) :
    Calls Try.prog 19 #[.pointer (some ⟨S, 0, none⟩), .int .i64 d, .pointer (some ⟨G, i * 5, none⟩), .string typ, .bool ask, .pointer (some ⟨O, 0, none⟩)] W fun e W' => e = .returned (.tuple #[]) ∧
      Fin (cxOf base rgs i S G R O tva tb ak Cb Tb gp) W (endOf g d typ closed prior im) (if ask then ys.length + 1 else ys.length) (if ask then u32s ys ++ [.int .u32 g.id] else u32s ys) W' := by
  have hlt : i < rgs.length := (List.getElem?_eq_some_iff.1 hi).1
  have hGs := gs_of h.g h.b hs hn
  obtain ⟨gc, hg1, hg2⟩ := hGs.blk
  obtain ⟨q0, q2, q3, q4⟩ := hg2 i hlt
  have hgr := hGs.gr i hlt
  have hC := (h.b.1 i g hlt hi).2.1
  obtain ⟨rc, hR⟩ := own_block h.r
  have hlen := hGs.len hlt
  have eLs : (gdOf rgs Cb Tb gp).Ls i = g.cs := by simp [gdOf, hi]
  have eid : (gdOf rgs Cb Tb gp).gid i = g.id := by simp [gdOf, hi]
  have ehg : (gdOf rgs Cb Tb gp).hg i = g.hg := by simp [gdOf, hi]
  have eex : (gdOf rgs Cb Tb gp).ex i = g.ex := by simp [gdOf, hi]
  have ete : (gdOf rgs Cb Tb gp).te i = g.te := by simp [gdOf, hi]
  rw [eid] at q0
  rw [eLs] at q2 hlen
  rw [ehg, eex, ete] at hgr
  refine wrap19 (cxOf base rgs i S G R O tva tb ak Cb Tb gp) (i * 5) g.id d typ ask (gp i) g.hg g.ex g.te (stOf g closed prior im) W (h.sat hi) (h.fit hi hs hn) ?_ ?_ ?_ hgr.at ?_ ⟨heap_lt h.s, heap_lt hC, heap_lt h.o, heap_lt hR⟩ hd hlen hp ys.length (u32s ys) hy h.a ⟨rc, hR⟩
  · exact (cell_of_row _ _ _ _ _ _ hg1).trans q0
  · exact (cell_of_row _ _ _ _ _ _ hg1).trans q2
  · exact (cell_of_row _ _ _ _ _ _ hg1).trans q4
  · intro B hB
    rintro (e | e | e | e)
    · exact hgr.ne h.s (by decide) B hB e
    · exact hgr.ne hC (by decide) B hB e
    · exact hgr.ne h.o (by decide) B hB e
    · exact hgr.ne hR (by decide) B hB e

theorem run21 (h : Ses base rgs closed prior im ys S G R O tva tb ak Cb Tb gp W) {i : Nat} {g : Rg} (hi : rgs[i]? = some g) (hs : lsum (clen rgs) rgs.length ≤ 1048576) (hn : rgs.length ≤ 1048576) (hp : prior.length ≤ 1048576) (d : Int) (hd : -4611686018427387904 ≤ d ∧ d ≤ 4611686018427387904) (typ : ByteArray)
    (hts : g.ts = [⟨typ, 2, 0⟩]) (hnt : ∀ k g', k ≠ i → rgs[k]? = some g' → g'.ts = []) (hm : ∀ c ∈ g.cs, c.m = 0 ∨ c.m = 1) :
    Calls Try.prog 21 #[.pointer (some ⟨S, 0, none⟩), .int .i64 d, .string typ, .pointer (some ⟨O, 0, none⟩)] W fun e W' => e = .returned (.tuple #[]) ∧
      Sat (cxOf base rgs i S G R O tva tb ak Cb Tb gp) W (endOf g d typ closed prior im) W' := by
  have hlt : i < rgs.length := (List.getElem?_eq_some_iff.1 hi).1
  have hGs := gs_of h.g h.b hs hn
  obtain ⟨rc, hR⟩ := own_block h.r
  have eLs : (gdOf rgs Cb Tb gp).Ls i = g.cs := by simp [gdOf, hi]
  have eid : (gdOf rgs Cb Tb gp).gid i = g.id := by simp [gdOf, hi]
  have ehg : (gdOf rgs Cb Tb gp).hg i = g.hg := by simp [gdOf, hi]
  have eex : (gdOf rgs Cb Tb gp).ex i = g.ex := by simp [gdOf, hi]
  have ete : (gdOf rgs Cb Tb gp).te i = g.te := by simp [gdOf, hi]
  have hT := (h.b.1 i g hlt hi).2.2.1
  rw [hts] at hT
  have := wrap21 (cxOf base rgs i S G R O tva tb ak Cb Tb gp) (gdOf rgs Cb Tb gp) i (Tb i) tva 0 d typ (stOf g closed prior im) W hlt rfl eLs.symm rfl (h.sat hi) (h.fit hi hs hn) hGs ?_ ?_ _ hT rfl rfl rfl hm ⟨rc, hR⟩ hd hp
  · rw [eid, ehg, eex, ete] at this
    exact this
  · intro k hk hne
    obtain ⟨g', hg'⟩ : ∃ g', rgs[k]? = some g' := ⟨_, List.getElem?_eq_getElem hk⟩
    refine ⟨some ⟨Tb k, 0, none⟩, 0, ?_⟩
    simp [gdOf, hg', hnt k g' hne hg']
  · simp [gdOf, hi, hts]

/-- A session that lies apart from what turned. -/
theorem Ses.turn (h : Ses base rgs closed prior im ys S G R O tva tb ak Cb Tb gp W) {W' : World} {P : Nat → Prop} (hT : Turn P W W') (p1 : ¬ P S) (p2 : ¬ P R) (p3 : ¬ P O) (p4 : ∀ k, k < rgs.length → ¬ P (Cb k)) (p5 : ∀ k, ak.ownBlock = some k → ¬ P k)
    (p6 : ∀ k cs t, W.heap[k]? = some (.cells cs t) → t = 89 ∨ t = 137 ∨ t = 134 → ¬ P k) : Ses base rgs closed prior im ys S G R O tva tb ak Cb Tb gp W' := by
  refine ⟨hT.at h.s p1, hT.at h.g (p6 _ _ _ h.g (.inl rfl)), ⟨fun j g hj hg => ?_, h.b.2⟩, own_turn h.r hT (fun k e => by cases e; exact p2), hT.at h.o p3, own_turn h.a hT p5, Nat.le_trans h.le hT.size⟩
  obtain ⟨h1, h2, h3, h4⟩ := h.b.1 j g hj hg
  refine ⟨h1, hT.at h2 (p4 j hj), hT.at h3 (p6 _ _ _ h3 (.inr (.inl rfl))), h4.turn hT ?_⟩
  intro B hB
  rcases h4 with ⟨e, _⟩ | ⟨B', cs, e1, e2, e3, e4, e5⟩
  · rw [e] at hB; cases hB
  · rw [e1] at hB; cases hB
    exact p6 _ _ _ e3 (.inr (.inr rfl))
end
end Go.Proofs.Qxb6608902a
