import Derived.Test.Qxb6608902aOpen
import Derived.Test.Qxb6608902aLastIn
namespace Go.Proofs.Qxb6608902a
open Go.RowKit

/-- An open usage container. -/
structure Ct where
  a : Int
  b : Bool
  m : Int
  up : Int
  dn : Int

def Ct.cells (c : Ct) : List Value := [.int .u32 c.a, .bool c.b, .int .u8 c.m, .int .u64 c.up, .int .u64 c.dn]
def Ct.zero (c : Ct) : Ct := { c with up := 0, dn := 0 }
def ctCells : List Ct → List Value
  | [] => []
  | c :: r => c.cells ++ ctCells r

theorem ctCells_append (l r : List Ct) : ctCells (l ++ r) = ctCells l ++ ctCells r := by
  induction l with
  | nil => rfl
  | cons c l ih => simp [ctCells, ih]
theorem ctCells_length (l : List Ct) : (ctCells l).length = l.length * 5 := by
  induction l with
  | nil => rfl
  | cons c l ih => simp [ctCells, ih, Ct.cells]; omega

theorem ctCells_get (l : List Ct) (j q : Nat) (c : Ct) (h : l[j]? = some c) (hq : q < 5) : (ctCells l)[j * 5 + q]? = c.cells[q]? := by
  induction l generalizing j with
  | nil => cases h
  | cons x l ih =>
    cases j with
    | zero =>
      obtain rfl : x = c := by simpa using h
      simp only [ctCells]
      rw [List.getElem?_append_left (by simp [Ct.cells]; omega)]
      simp
    | succ j =>
      simp only [ctCells]
      rw [List.getElem?_append_right (by simp [Ct.cells]; omega)]
      have e : (j + 1) * 5 + q - x.cells.length = j * 5 + q := by simp [Ct.cells]; omega
      rw [e]
      exact ih j (by simpa using h)

theorem ctCells_set (l : List Ct) (j : Nat) (c : Ct) (h : l[j]? = some c) : ((ctCells l).set (j * 5 + 3) (.int .u64 0)).set (j * 5 + 4) (.int .u64 0) = ctCells (l.set j c.zero) := by
  induction l generalizing j with
  | nil => cases h
  | cons x l ih =>
    cases j with
    | zero =>
      obtain rfl : x = c := by simpa using h
      simp [ctCells, Ct.cells, Ct.zero]
    | succ j =>
      have e := ih j (by simpa using h)
      simp only [ctCells, List.set_cons_succ]
      rw [← e]
      have e1 : (j + 1) * 5 + 3 = j * 5 + 3 + 1 + 1 + 1 + 1 + 1 := by omega
      have e2 : (j + 1) * 5 + 4 = j * 5 + 4 + 1 + 1 + 1 + 1 + 1 := by omega
      simp only [Ct.cells, List.cons_append, List.nil_append, e1, e2, List.set_cons_succ]

theorem ctCells_setA (l : List Ct) (j : Nat) (c : Ct) (h : l[j]? = some c) : ((ctCells l).toArray.setIfInBounds (j * 5 + 3) (.int .u64 0)).setIfInBounds (j * 5 + 4) (.int .u64 0) = (ctCells (l.set j c.zero)).toArray := by
  rw [← ctCells_set l j c h]; simp

/-- What a run of closings turns: a group's containers, the count of closed ones, the report, whether it is immediate. -/
structure St where
  L : List Ct
  cl : Int
  n : Nat
  xs : List Value
  im : Bool

/-- Container j, that is c, is closed. -/
def stC (gid d : Int) (typ : ByteArray) (r : Int) (st : St) (j : Nat) (c : Ct) : St :=
  { L := st.L.set j c.zero, cl := wrap64 (st.cl + 1), n := st.n + 1, xs := st.xs ++ recCells c.a c.b c.m gid (wrap64 (st.cl + 1)) typ r d c.up c.dn, im := st.im }

/-- Container j is closed for an immediate report where it is online. -/
def stp (gid d : Int) (typ : ByteArray) (st : St) (j : Nat) : St :=
  match st.L[j]? with
  | none => st
  | some c => if c.m = 0 then { stC gid d typ 2 st j c with im := true } else st

theorem stp_map (gid d : Int) (typ : ByteArray) (st : St) (j : Nat) : (stp gid d typ st j).L.map Ct.m = st.L.map Ct.m := by
  unfold stp
  split
  · rfl
  · rename_i c h
    split
    · simp only [stC]
      rw [List.map_set]
      have hj : j < st.L.length := (List.getElem?_eq_some_iff.1 h).1
      have he : st.L[j] = c := (List.getElem?_eq_some_iff.1 h).2
      have : (Ct.zero c).m = (st.L.map Ct.m)[j]'(by simpa using hj) := by simp [Ct.zero, he]
      rw [this, List.set_getElem_self]
    · rfl
theorem stp_n (gid d : Int) (typ : ByteArray) (st : St) (j : Nat) : (stp gid d typ st j).n ≤ st.n + 1 := by
  unfold stp
  split
  · omega
  · split
    · simp [stC]
    · omega

def stps (gid d : Int) (typ : ByteArray) (st : St) (js : List Nat) : St := js.foldl (stp gid d typ) st
theorem stps_snoc (gid d : Int) (typ : ByteArray) (st : St) (js : List Nat) (j : Nat) : stps gid d typ st (js ++ [j]) = stp gid d typ (stps gid d typ st js) j := by simp [stps]
theorem stps_map (gid d : Int) (typ : ByteArray) (js : List Nat) : ∀ st : St, (stps gid d typ st js).L.map Ct.m = st.L.map Ct.m := by
  induction js with
  | nil => intro st; rfl
  | cons j js ih => intro st; exact (ih _).trans (stp_map gid d typ st j)
theorem stps_n (gid d : Int) (typ : ByteArray) (js : List Nat) : ∀ st : St, (stps gid d typ st js).n ≤ st.n + js.length := by
  induction js with
  | nil => intro st; simp [stps]
  | cons j js ih =>
    intro st
    have h1 := ih (stp gid d typ st j)
    have h2 := stp_n gid d typ st j
    simp only [List.length_cons]
    show (stps gid d typ (stp gid d typ st j) js).n ≤ _
    omega

/-- What does not turn: the session's, the groups', the containers', the outcome's blocks, the report's first block; the rest of the session and of the outcome. -/
structure Cx where
  S : Nat
  G : Nat
  N : Nat
  C : Nat
  O : Nat
  R : Nat
  base : Nat
  tv : Value
  tr : Value
  ak : Value
  ln : Nat → Nat
  cp : Nat → Nat
  ga : Nat → Option Addr

def Sat (X : Cx) (w0 : World) (st : St) (W : World) : Prop :=
  ∃ R c, W.heap[X.S]? = some (.cells (sess (.slice (some ⟨X.G, 0, none⟩) X.N X.N) X.tv st.cl (.slice (some ⟨R, 0, none⟩) st.n c)) 116) ∧
    W.ownsRow X.base 97 10 (.slice (some ⟨R, 0, none⟩) st.n c) st.n st.xs ∧ W.heap[X.C]? = some (.cells (ctCells st.L).toArray 82) ∧
    W.heap[X.O]? = some (.cells #[.bool st.im, X.tr, X.ak] 140) ∧ Turn (fun k => k = X.S ∨ k = X.C ∨ k = X.O ∨ k = X.R) w0 W ∧ (R = X.R ∨ w0.heap.size ≤ R)

/-- What lies in the world where the loop begins, besides. -/
structure Fit (X : Cx) (w0 : World) : Prop where
  g : ∃ gc, w0.heap[X.G]? = some (.cells gc 89) ∧ ∀ k, k < X.N → gc[k * 5 + 2]? = some (.slice (X.ga k) (X.ln k) (X.cp k))
  ne : ¬ (X.G = X.S ∨ X.G = X.C ∨ X.G = X.O ∨ X.G = X.R)
  sum : lsum X.ln X.N ≤ 1048576
  nn : X.N ≤ 1048576
  base : X.base ≤ w0.heap.size

theorem Sat.groups {X : Cx} {w0 W : World} {st : St} (h : Sat X w0 st W) (hf : Fit X w0) : ∃ gc, W.heap[X.G]? = some (.cells gc 89) ∧ ∀ k, k < X.N → gc[k * 5 + 2]? = some (.slice (X.ga k) (X.ln k) (X.cp k)) := by
  obtain ⟨gc, h1, h2⟩ := hf.g
  obtain ⟨R, c, _, _, _, _, hT, _⟩ := h
  exact ⟨gc, hT.at h1 hf.ne, h2⟩

theorem turn_keeps {R : Nat → Prop} {W W' : World} (h : Turn R W W') (hr : ∀ k, R k → ∃ cs t f, W.heap[k]? = some (.cells cs t f)) : KeepsOthers W W' := by
  refine ⟨h.size, fun k o hk ho => ?_⟩
  have hlt := heap_lt hk
  by_cases hR : R k
  · obtain ⟨cs, t, f, e⟩ := hr k hR
    rw [e] at hk; cases hk; cases ho
  · exact (h.block k hlt hR).trans hk

theorem own_block {w : World} {base n m R c : Nat} {xs : List Value} (h : w.ownsRow base 97 10 (.slice (some ⟨R, 0, none⟩) m c) n xs) : ∃ cs, w.heap[R]? = some (.cells cs 97) := by
  rcases h.2 with ⟨hv, _⟩ | ⟨g, cap, cur, hv, _, hg, _⟩
  · cases hv
  · cases hv; exact ⟨cur, hg⟩

theorem Sat.close {X : Cx} {w0 W : World} {st : St} (h : Sat X w0 st W) (hf : Fit X w0) (j : Nat) (c : Ct) (hc : st.L[j]? = some c) (hn : st.n ≤ 2097152) (gid d r : Int) (typ : ByteArray) (hd : -4611686018427387904 ≤ d ∧ d ≤ 4611686018427387904) :
    Calls Try.prog 53 #[.pointer (some ⟨X.S, 0, none⟩), .int .u32 gid, .pointer (some ⟨X.C, j * 5, none⟩), .agg #[.int .u64 (nsOf d), .int .i64 (secOf d), .pointer none], .string typ, .int .u8 r] W fun e W' =>
      e = .returned (.tuple #[]) ∧ Sat X w0 (stC gid d typ r st j c) W' ∧ KeepsOthers W W' := by
  obtain ⟨gc, hg1, hg2⟩ := h.groups hf
  obtain ⟨R, cp, hS, hown, hC, hO, hT, hR⟩ := h
  have hb : X.base ≤ W.heap.size := Nat.le_trans hf.base hT.size
  refine (close53 X.S X.G X.N X.C X.tv st.cl R st.n cp X.base st.xs X.ln X.cp X.ga j c.a c.m c.up c.dn gid d r (wrap64 (st.cl + 1)) c.b typ W rfl hS (fun k hk => by rw [cell_of_row _ _ _ _ _ _ hg1]; exact hg2 k hk) hf.sum hf.nn hn hd (ctCells st.L).toArray hC
    (by simpa [Ct.cells] using ctCells_get st.L j 0 c hc (by omega)) (by simpa [Ct.cells] using ctCells_get st.L j 1 c hc (by omega)) (by simpa [Ct.cells] using ctCells_get st.L j 2 c hc (by omega)) (by simpa [Ct.cells] using ctCells_get st.L j 3 c hc (by omega)) (by simpa [Ct.cells] using ctCells_get st.L j 4 c hc (by omega)) hown hb).mono ?_
  rintro e W' ⟨rfl, R2, c2, hS2, ho2, hC2, hT2, hR2⟩
  obtain ⟨rc, hrc⟩ := own_block hown
  refine ⟨rfl, ⟨R2, c2, hS2, ho2, by rw [hC2, ctCells_setA st.L j c hc]; rfl, ?_, ?_, ?_⟩, ?_⟩
  · refine hT2.at hO ?_
    rintro (e | e | e)
    · exact neT hO hS (by decide) e
    · exact neT hO hC (by decide) e
    · exact neT hO hrc (by decide) e
  · refine hT.trans hT2 ?_
    rintro k hk (e | e | e)
    · exact .inl e
    · exact .inr (.inl e)
    · rcases hR with h | h
      · exact .inr (.inr (.inr (by omega)))
      · omega
  · have := hT.size
    rcases hR2 with h | h
    · subst h; exact hR
    · exact .inr (by omega)
  · refine turn_keeps hT2 ?_
    rintro k (rfl | rfl | rfl)
    · exact ⟨_, _, _, hS⟩
    · exact ⟨_, _, _, hC⟩
    · exact ⟨_, _, _, hrc⟩

theorem Sat.imm {X : Cx} {w0 W : World} {st : St} (h : Sat X w0 st W) (b : Bool) : Sat X w0 { st with im := b } (W.setCell ⟨X.O, 0, none⟩ (.bool b)) := by
  obtain ⟨R, cp, hS, hown, hC, hO, hT, hR⟩ := h
  obtain ⟨rc, hrc⟩ := own_block hown
  refine ⟨R, cp, ?_, ?_, ?_, ?_, hT.setCell (fun _ => .inr (.inr (.inl rfl))) _, hR⟩
  · rw [Below.heap_setCell _ _ _ _ (neT hS hO (by decide))]; exact hS
  · exact own_set hown (neT hO hrc (by decide))
  · rw [Below.heap_setCell _ _ _ _ (neT hC hO (by decide))]; exact hC
  · rw [heap_setCell_same W X.O 0 _ _ _ hO]; simp

theorem Sat.drew {X : Cx} {w0 W : World} {st : St} (h : Sat X w0 st W) : Sat X w0 st W.drew := by
  obtain ⟨R, cp, hS, hown, hC, hO, hT, hR⟩ := h
  exact ⟨R, cp, hS, hown, hC, hO, hT.drew, hR⟩

theorem Sat.own {X : Cx} {w0 W W' : World} {st : St} {row : Option Nat} (h : Sat X w0 st W) (hg : W.grownBy W' row) (hr : ∀ r, row = some r → w0.heap.size ≤ r ∧ ∃ o : Obj, W.heap[r]? = some o ∧ o.isCells = false) : Sat X w0 st W' := by
  obtain ⟨R, cp, hS, hown, hC, hO, hT, hR⟩ := h
  obtain ⟨rc, hrc⟩ := own_block hown
  have hk : ∀ (k : Nat) (cs : Array Value) (t : TypeId) (f : Nat × Nat), W.heap[k]? = some (.cells cs t f) → row ≠ some k := by
    intro k cs t f h e
    obtain ⟨_, o, ho, hc⟩ := hr k e
    rw [h] at ho; cases ho; cases hc
  refine ⟨R, cp, ?_, ?_, ?_, ?_, ?_, hR⟩
  · rw [hg.block _ (heap_lt hS) (Ne.symm (hk _ _ _ _ hS))]; exact hS
  · exact hown.kept hg (.inr (Ne.symm (hk _ _ _ _ hrc)))
  · rw [hg.block _ (heap_lt hC) (Ne.symm (hk _ _ _ _ hC))]; exact hC
  · rw [hg.block _ (heap_lt hO) (Ne.symm (hk _ _ _ _ hO))]; exact hO
  · exact hT.trans (Turn.ofGrown hg) (fun k hk e => by have := (hr k e).1; omega)
end Go.Proofs.Qxb6608902a
