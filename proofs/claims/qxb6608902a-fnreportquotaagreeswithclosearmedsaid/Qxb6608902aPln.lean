import Derived.Test.Qxb6608902aObs
import Derived.Test.Qxb6608902aWrap
import Derived.Test.Qxb6608902aByt
namespace Go.Proofs.Qxb6608902a
open Go.RowKit Go.Shelf

theorem wrap_wrap (x y : Int) : wrap64 (wrap64 x + y) = wrap64 (x + y) := by unfold wrap64; omega

def cntZ (ms : List Int) (js : List Nat) : Nat := (js.filter fun j => decide (ms[j]? = some 0)).length

theorem stps_says (gid d : Int) (typ : ByteArray) (js : List Nat) : ∀ (st : St) (rs : List Rc), st.xs = rcCells rs → st.n = rs.length → wrap64 st.cl = st.cl →
    ∃ more : List Rc, (stps gid d typ st js).xs = rcCells (rs ++ more) ∧ (stps gid d typ st js).n = rs.length + more.length ∧ more.length = cntZ (st.L.map Ct.m) js ∧
      (stps gid d typ st js).cl = wrap64 (st.cl + more.length) ∧ (stps gid d typ st js).im = (st.im || decide (0 < more.length)) := by
  induction js with
  | nil => intro st rs h1 h2 h3; exact ⟨[], by simpa [stps] using h1, by simpa [stps] using h2, rfl, by simp [stps, h3], by simp [stps]⟩
  | cons j js ih =>
    intro st rs h1 h2 h3
    have hst : stps gid d typ st (j :: js) = stps gid d typ (stp gid d typ st j) js := rfl
    rw [hst]
    have hmap := stp_map gid d typ st j
    by_cases hj : (st.L.map Ct.m)[j]? = some 0
    · obtain ⟨c, hc, hm⟩ : ∃ c, st.L[j]? = some c ∧ c.m = 0 := by simpa using hj
      have e : stp gid d typ st j = { stC gid d typ 2 st j c with im := true } := by simp [stp, hc, hm]
      obtain ⟨more, m1, m2, m3, m4, m5⟩ := ih (stp gid d typ st j) (rs ++ [⟨c.a, c.b, c.m, gid, wrap64 (st.cl + 1), typ, 2, d, c.up, c.dn⟩]) (by rw [e]; simp [stC, h1, rcCells, Rc.cells]) (by rw [e]; simp [stC, h2]) (by rw [e]; simp only [stC]; unfold wrap64; omega)
      refine ⟨⟨c.a, c.b, c.m, gid, wrap64 (st.cl + 1), typ, 2, d, c.up, c.dn⟩ :: more, by rw [m1]; simp, by rw [m2]; simp; omega, ?_, ?_, ?_⟩
      · rw [hmap] at m3
        unfold cntZ at m3 ⊢
        rw [List.filter_cons_of_pos (by simpa using hj), List.length_cons, List.length_cons, m3]
      · rw [m4, e]
        simp only [stC, wrap_wrap, List.length_cons]
        congr 1
        push_cast
        omega
      · rw [m5, e]
        simp
    · have e : stp gid d typ st j = st := by
        unfold stp
        split
        · rfl
        · rename_i c hc
          rw [if_neg]
          intro hm
          apply hj
          simp [hc, hm]
      rw [e]
      obtain ⟨more, m1, m2, m3, m4, m5⟩ := ih st rs h1 h2 h3
      refine ⟨more, m1, m2, ?_, m4, m5⟩
      unfold cntZ at m3 ⊢
      rw [List.filter_cons_of_neg (by simpa using hj)]
      exact m3

/-- How many of the first k containers are closed. -/
def cntO (L : List Ct) (hg ex te : Bool) (k : Nat) : Nat := cntZ (L.map Ct.m) (openIdx (msOf L) hg ex te k)

theorem cntO_succ (L : List Ct) (hg ex te : Bool) (k : Nat) (c : Ct) (h : L[k]? = some c) : cntO L hg ex te (k + 1) = cntO L hg ex te k + (if c.m = 0 ∧ (hg && ex && te) = false then 1 else 0) := by
  unfold cntO
  rw [openIdx_succ, msOf_some h]
  by_cases hm : c.m = 0
  · cases hg <;> cases ex <;> cases te <;> simp [blkB, hm, cntZ, h]
  · have hb : blkB c.m hg ex te = false := by simp [blkB, hm]
    rw [hb]
    simp [cntZ, hm, h]
theorem cntO_le (L : List Ct) (hg ex te : Bool) (k : Nat) : cntO L hg ex te k ≤ k := by
  unfold cntO cntZ
  exact Nat.le_trans (List.length_filter_le _ _) (openIdx_length _ _ _ _ _)

/-- The groups of a session that is built. -/
def gdOf (rgs : List Rg) (Cb Tb : Nat → Nat) (gp : Nat → Option Addr) : Gd :=
  { gid := fun k => match rgs[k]? with | some g => g.id | none => 0
    Cb := Cb
    Ls := fun k => match rgs[k]? with | some g => g.cs | none => []
    tg := fun k => match rgs[k]? with | some g => .slice (some ⟨Tb k, 0, none⟩) g.ts.length g.ts.length | none => .slice none 0 0
    gp := gp
    hg := fun k => match rgs[k]? with | some g => g.hg | none => false
    ex := fun k => match rgs[k]? with | some g => g.ex | none => false
    te := fun k => match rgs[k]? with | some g => g.te | none => false }

theorem gRow_succ (rgs : List Rg) (Cb Tb : Nat → Nat) (gp : Nat → Option Addr) (k : Nat) (g : Rg) (h : rgs[k]? = some g) : gRow rgs Cb Tb gp (k + 1) = gRow rgs Cb Tb gp k ++ gCells g (Cb k) (Tb k) (gp k) := by
  unfold gRow
  rw [List.range_succ, List.flatMap_append]
  simp [h]
theorem gRow_length (rgs : List Rg) (Cb Tb : Nat → Nat) (gp : Nat → Option Addr) (k : Nat) (hk : k ≤ rgs.length) : (gRow rgs Cb Tb gp k).length = k * 5 := by
  induction k with
  | zero => rfl
  | succ k ih =>
    obtain ⟨g, hg⟩ : ∃ g, rgs[k]? = some g := ⟨_, List.getElem?_eq_getElem (by omega)⟩
    rw [gRow_succ _ _ _ _ _ g hg, List.length_append, ih (by omega)]
    simp [gCells]; omega
theorem gRow_get (rgs : List Rg) (Cb Tb : Nat → Nat) (gp : Nat → Option Addr) (N : Nat) (hN : N ≤ rgs.length) : ∀ (k q : Nat) (g : Rg), k < N → rgs[k]? = some g → q < 5 → (gRow rgs Cb Tb gp N)[k * 5 + q]? = (gCells g (Cb k) (Tb k) (gp k))[q]? := by
  induction N with
  | zero => intro k q g h; omega
  | succ N ih =>
    intro k q g hk hg hq
    obtain ⟨g', hg'⟩ : ∃ g, rgs[N]? = some g := ⟨_, List.getElem?_eq_getElem (by omega)⟩
    have hl := gRow_length rgs Cb Tb gp N (by omega)
    rw [gRow_succ _ _ _ _ _ g' hg']
    by_cases e : k = N
    · subst e
      rw [hg] at hg'; cases hg'
      rw [List.getElem?_append_right (by omega), hl]
      congr 1; omega
    · rw [List.getElem?_append_left (by omega)]
      exact ih (by omega) k q g (by omega) hg hq

theorem gs_of {rgs : List Rg} {Cb Tb : Nat → Nat} {gp : Nat → Option Addr} {base G : Nat} {W : World} (hG : W.heap[G]? = some (.cells (gRow rgs Cb Tb gp rgs.length).toArray 89)) (hB : Built base rgs rgs.length Cb Tb gp W) (hs : lsum (clen rgs) rgs.length ≤ 1048576) (hn : rgs.length ≤ 1048576) : Gs G rgs.length (gdOf rgs Cb Tb gp) W := by
  have hat : ∀ k, k < rgs.length → ∃ g, rgs[k]? = some g := fun k hk => ⟨_, List.getElem?_eq_getElem hk⟩
  refine ⟨⟨_, hG, fun k hk => ?_⟩, fun k hk => ?_, fun j k hj hk hne => hB.2 j k hj hk hne, fun k hk => ?_, ?_, hn⟩
  · obtain ⟨g, hg⟩ := hat k hk
    have h := fun q hq => gRow_get rgs Cb Tb gp rgs.length (Nat.le_refl _) k q g hk hg hq
    refine ⟨?_, ?_, ?_, ?_⟩
    · have := h 0 (by omega); simpa [gdOf, hg, gCells] using this
    · have := h 2 (by omega); simpa [gdOf, hg, gCells] using this
    · have := h 3 (by omega); simpa [gdOf, hg, gCells] using this
    · have := h 4 (by omega); simpa [gdOf, hg, gCells] using this
  · obtain ⟨g, hg⟩ := hat k hk
    have := (hB.1 k g hk hg).2.1
    simpa [gdOf, hg] using this
  · obtain ⟨g, hg⟩ := hat k hk
    have := (hB.1 k g hk hg).2.2.2
    simpa [gdOf, hg] using this
  · have e : (fun k => ((gdOf rgs Cb Tb gp).Ls k).length) = clen rgs := by
      funext k
      simp only [gdOf, clen]
      cases rgs[k]? <;> rfl
    rw [e]; exact hs

theorem rd_own {w : World} {base n R c : Nat} {rs : List Rc} (h : w.ownsRow base 97 10 (.slice (some ⟨R, 0, none⟩) n c) n (rcCells rs)) : Rd w (some ⟨R, 0, none⟩) 10 (rs.map Rc.cells) := by
  rcases h.2 with ⟨hv, _⟩ | ⟨g, cap, cur, hv, _, hg, _, _, hs, ht⟩
  · cases hv
  · cases hv
    refine rd_rc hg ?_
    intro k v hk
    rw [← ht] at hk
    have hl := (List.getElem?_eq_some_iff.1 hk).1
    rw [List.getElem?_take_of_lt (by simp at hl; omega)] at hk
    simpa using hk

theorem rd_u32 {w : World} {base n : Nat} {v : Value} {ys : List Int} (h : w.ownsRow base 22 1 v n (u32s ys)) (hn : n = ys.length) : ∃ a c, v = .slice a ys.length c ∧ Rd w a 1 (ys.map fun y => [.int .u32 y]) ∧ (a = none → ys = [] ∧ c = 0) := by
  subst hn
  rcases h.2 with ⟨rfl, h0⟩ | ⟨g, cap, cur, rfl, _, hg, _, _, hs, ht⟩
  · have : ys = [] := List.length_eq_zero_iff.1 h0
    subst this
    exact ⟨none, 0, rfl, (fun i c hi => by simp at hi), fun _ => ⟨rfl, rfl⟩⟩
  · refine ⟨_, cap, rfl, ?_, fun h => by cases h⟩
    intro i c hi
    obtain ⟨y, hy, rfl⟩ : ∃ y, ys[i]? = some y ∧ [Value.int .u32 y] = c := by simpa using hi
    refine ⟨g, 0, rfl, fun q v hv => ?_⟩
    obtain rfl : q = 0 := by
      have := (List.getElem?_eq_some_iff.1 hv).1
      simp at this; exact this
    obtain rfl : Value.int .u32 y = v := by simpa using hv
    rw [cell_of_row _ _ _ _ _ _ hg]
    have hk : (u32s ys)[i]? = some (.int .u32 y) := by simp [u32s, hy]
    rw [← ht] at hk
    have hl := (List.getElem?_eq_some_iff.1 hk).1
    rw [List.getElem?_take_of_lt (by simp at hl; omega)] at hk
    simpa using hk

def cssOf (D : Gd) (N i : Nat) (L : List Ct) : List (List Ct) := (List.range N).map fun k => if k = i then L else D.Ls k

/-- What observe will read of a session behind a run over group i. -/
theorem sees_after {w w' : World} {P : Nat → Prop} {D : Gd} {S G N i R base n c : Nat} {tv : Value} {cl : Int} {rs : List Rc} {L : List Ct} (hGs : Gs G N D w) (hT : Turn P w w') (hGP : ¬ P G) (hCP : ∀ k, k < N → k ≠ i → ¬ P (D.Cb k))
    (hS : w'.heap[S]? = some (.cells (sess (.slice (some ⟨G, 0, none⟩) N N) tv cl (.slice (some ⟨R, 0, none⟩) n c)) 116)) (hown : w'.ownsRow base 97 10 (.slice (some ⟨R, 0, none⟩) n c) n (rcCells rs)) (hn : n = rs.length)
    (hC : w'.heap[D.Cb i]? = some (.cells (ctCells L).toArray 82)) (hL : L.length = (D.Ls i).length) : Sees w' S rs (cssOf D N i L) cl := by
  obtain ⟨gc, hg1, hg2⟩ := hGs.blk
  have hg3 := hT.at hg1 hGP
  subst hn
  refine ⟨some ⟨G, 0, none⟩, N, tv, some ⟨R, 0, none⟩, c, by simpa [cssOf] using hS, rd_own hown, ?_⟩
  intro k cs hk
  obtain ⟨hkN, hcs⟩ : k < N ∧ (if k = i then L else D.Ls k) = cs := by
    have hkl := (List.getElem?_eq_some_iff.1 hk).1
    have hkN : k < N := by simpa [cssOf] using hkl
    refine ⟨hkN, ?_⟩
    simp only [cssOf, List.getElem?_map, Option.map_eq_some_iff] at hk
    obtain ⟨j, hj, hc⟩ := hk
    rw [List.getElem?_range hkN] at hj
    cases hj
    exact hc
  refine ⟨G, 0, some ⟨D.Cb k, 0, none⟩, (D.Ls k).length, rfl, ?_, ?_⟩
  · rw [cell_of_row _ _ _ _ _ _ hg3, Nat.zero_add, (hg2 k hkN).2.1]
    by_cases e : k = i
    · subst e; rw [if_pos rfl] at hcs; rw [← hcs, hL]
    · rw [if_neg e] at hcs; rw [← hcs]
  · by_cases e : k = i
    · subst e; rw [if_pos rfl] at hcs; subst hcs
      exact rd_ct hC (fun k v h => by simpa using h)
    · rw [if_neg e] at hcs; subst hcs
      exact rd_ct (hT.at (hGs.cs k hkN) (hCP k hkN e)) (fun k v h => by simpa using h)

theorem Gs.turn {w w' : World} {P : Nat → Prop} {G N : Nat} {D : Gd} (h : Gs G N D w) (hT : Turn P w w') (hGP : ¬ P G) (hCP : ∀ k, k < N → ¬ P (D.Cb k)) (hgr : ∀ k, k < N → ∀ B, D.gp k = some ⟨B, 0, none⟩ → ¬ P B) : Gs G N D w' := by
  refine ⟨?_, fun k hk => hT.at (h.cs k hk) (hCP k hk), h.inj, fun k hk => (h.gr k hk).turn hT (hgr k hk), h.sum, h.nn⟩
  obtain ⟨gc, h1, h2⟩ := h.blk
  exact ⟨gc, hT.at h1 hGP, h2⟩
end Go.Proofs.Qxb6608902a
