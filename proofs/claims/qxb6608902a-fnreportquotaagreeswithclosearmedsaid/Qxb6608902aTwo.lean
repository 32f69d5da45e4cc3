import Derived.Test.Qxb6608902aRun
import Derived.Test.Qxb6608902aMod
import Derived.Test.Qxb6608902aSess
namespace Go.Proofs.Qxb6608902a
open Go.RowKit Go.Shelf

theorem endOf_len (g : Rg) (d : Int) (typ : ByteArray) (closed : Int) (prior : List Rc) (im : Bool) : (endOf g d typ closed prior im).L.length = g.cs.length := by
  have := congrArg List.length (stps_map g.id d typ (openIdx (msOf g.cs) g.hg g.ex g.te g.cs.length) (stOf g closed prior im))
  simpa [endOf, stOf] using this

theorem Sees.later {w w' : World} {S : Nat} {rs : List Rc} {css : List (List Ct)} {cl : Int} (h : Sees w S rs css cl) (hb : Below w.heap.size w w') : Sees w' S rs css cl := by
  obtain ⟨ga, gc, tv, ra, rc, h1, h2, h3⟩ := h
  refine ⟨ga, gc, tv, ra, rc, (hb.block _ (heap_lt h1)).trans h1, h2.later hb, ?_⟩
  intro k cs hk
  obtain ⟨b, o, ca, cc, e, q1, q2⟩ := h3 k cs hk
  exact ⟨b, o, ca, cc, e, cell_later hb q1, q2.later hb⟩

section
variable {base : Nat} {rgs : List Rg} {closed : Int} {prior : List Rc} {im : Bool} {ys : List Int} {S G R O : Nat} {tva tb : Option Addr} {ak : Value} {Cb Tb : Nat → Nat} {gp : Nat → Option Addr} {W : World}

theorem Ses.ne (h : Ses base rgs closed prior im ys S G R O tva tb ak Cb Tb gp W) {i : Nat} {g : Rg} (hi : rgs[i]? = some g) {b : Nat} {cs : Array Value} {t : TypeId} (hb : W.heap[b]? = some (.cells cs t)) (h1 : t = 116 → b ≠ S) (h2 : t = 82 → b ≠ Cb i) (h3 : t = 140 → b ≠ O) (h4 : t = 97 → b ≠ R) (h5 : t = 22 → ak.ownBlock ≠ some b) :
    ¬ (b = S ∨ b = Cb i ∨ b = O ∨ b = R ∨ ak.ownBlock = some b) := by
  have hC := (h.b.1 i g (List.getElem?_eq_some_iff.1 hi).1 hi).2.1
  obtain ⟨rc, hR⟩ := own_block h.r
  rintro (e | e | e | e | e)
  · by_cases ht : t = 116
    · exact h1 ht e
    · exact neT hb h.s ht e
  · by_cases ht : t = 82
    · exact h2 ht e
    · exact neT hb hC ht e
  · by_cases ht : t = 140
    · exact h3 ht e
    · exact neT hb h.o ht e
  · by_cases ht : t = 97
    · exact h4 ht e
    · exact neT hb hR ht e
  · by_cases ht : t = 22
    · exact h5 ht e
    · obtain ⟨cs', hc⟩ := own_typ h.a _ e
      exact neT hb hc ht rfl

theorem fin_sees (h : Ses base rgs closed prior im ys S G R O tva tb ak Cb Tb gp W) {i : Nat} {g : Rg} (hi : rgs[i]? = some g) (hs : lsum (clen rgs) rgs.length ≤ 1048576) (hn : rgs.length ≤ 1048576) {d : Int} {typ : ByteArray} {na : Nat} {zs : List Value} {W' W'' : World} (hF : Fin (cxOf base rgs i S G R O tva tb ak Cb Tb gp) W (endOf g d typ closed prior im) na zs W') {P : Nat → Prop} (hT2 : Turn P W' W'')
    (p1 : ¬ P S) (p2 : ¬ P R) (p2' : ∀ b, W.heap.size ≤ b → ¬ P b) (p3 : ¬ P O) (p4 : ∀ k, k < rgs.length → ¬ P (Cb k)) (p6 : ∀ b cs t, W'.heap[b]? = some (.cells cs t) → t = 89 ∨ t = 22 → ¬ P b) (rs : List Rc) (hx : (endOf g d typ closed prior im).xs = rcCells rs) (hrn : (endOf g d typ closed prior im).n = rs.length) :
    ∃ ak', Sees W'' S rs (cssOf (gdOf rgs Cb Tb gp) rgs.length i (endOf g d typ closed prior im).L) (endOf g d typ closed prior im).cl ∧ W''.heap[O]? = some (.cells #[.bool (endOf g d typ closed prior im).im, .slice tb 0 0, ak'] 140) ∧ W''.ownsRow base 22 1 ak' na zs := by
  have hlt : i < rgs.length := (List.getElem?_eq_some_iff.1 hi).1
  have hGs := gs_of h.g h.b hs hn
  obtain ⟨R', c, ak', eS, eR, eC, eO, eA, eT, eN⟩ := hF
  have hNG : ¬ (G = S ∨ G = Cb i ∨ G = O ∨ G = R ∨ ak.ownBlock = some G) := h.ne hi h.g (fun h => absurd h (by decide)) (fun h => absurd h (by decide)) (fun h => absurd h (by decide)) (fun h => absurd h (by decide)) (fun h => absurd h (by decide))
  have hT : Turn (fun b => (b = S ∨ b = Cb i ∨ b = O ∨ b = R ∨ ak.ownBlock = some b) ∨ P b) W W'' := (eT.mono (fun _ _ h => .inl h)).trans hT2 (fun _ _ h => .inr h)
  have pR : ¬ P R' := by
    rcases eN with e | e
    · rw [e]; exact p2
    · exact p2' _ e
  refine ⟨ak', ?_, hT2.at eO p3, own_turn eA hT2 (fun k e => by obtain ⟨cs, hc⟩ := own_typ eA k e; exact p6 _ _ _ hc (.inr rfl))⟩
  refine sees_after hGs hT ?_ ?_ (hT2.at eS p1) (by have := own_turn eR hT2 (fun k e => by cases e; exact pR); rw [hx] at this; exact this) hrn (hT2.at eC (p4 i hlt)) ?_
  · rintro (e | e)
    · exact hNG e
    · exact p6 _ _ _ (eT.at h.g hNG) (.inl rfl) e
  · intro k hk hne
    rintro (e | e)
    · exact h.ne hi (hGs.cs k hk) (fun h => absurd h (by decide)) (fun _ => hGs.inj k i hk hlt hne) (fun h => absurd h (by decide)) (fun h => absurd h (by decide)) (fun h => absurd h (by decide)) e
    · exact p4 k hk e
  · rw [endOf_len]; simp [gdOf, hi]

theorem sat_sees (h : Ses base rgs closed prior im ys S G R O tva tb ak Cb Tb gp W) {i : Nat} {g : Rg} (hi : rgs[i]? = some g) (hs : lsum (clen rgs) rgs.length ≤ 1048576) (hn : rgs.length ≤ 1048576) {d : Int} {typ : ByteArray} {W' : World} (hF : Sat (cxOf base rgs i S G R O tva tb ak Cb Tb gp) W (endOf g d typ closed prior im) W')
    (rs : List Rc) (hx : (endOf g d typ closed prior im).xs = rcCells rs) (hrn : (endOf g d typ closed prior im).n = rs.length) :
    Sees W' S rs (cssOf (gdOf rgs Cb Tb gp) rgs.length i (endOf g d typ closed prior im).L) (endOf g d typ closed prior im).cl ∧ W'.heap[O]? = some (.cells #[.bool (endOf g d typ closed prior im).im, .slice tb 0 0, ak] 140) ∧ W'.ownsRow base 22 1 ak ys.length (u32s ys) := by
  have hlt : i < rgs.length := (List.getElem?_eq_some_iff.1 hi).1
  have hGs := gs_of h.g h.b hs hn
  obtain ⟨R', c, eS, eR, eC, eO, eT, eN⟩ := hF
  have nn : ∀ {b : Nat} {cs : Array Value} {t : TypeId}, W.heap[b]? = some (.cells cs t) → (t = 116 → b ≠ S) → (t = 82 → b ≠ Cb i) → (t = 140 → b ≠ O) → (t = 97 → b ≠ R) → ¬ (b = S ∨ b = Cb i ∨ b = O ∨ b = R) := by
    intro b cs t hb h1 h2 h3 h4
    have hC := (h.b.1 i g hlt hi).2.1
    obtain ⟨rc, hR⟩ := own_block h.r
    rintro (e | e | e | e)
    · by_cases ht : t = 116
      · exact h1 ht e
      · exact neT hb h.s ht e
    · by_cases ht : t = 82
      · exact h2 ht e
      · exact neT hb hC ht e
    · by_cases ht : t = 140
      · exact h3 ht e
      · exact neT hb h.o ht e
    · by_cases ht : t = 97
      · exact h4 ht e
      · exact neT hb hR ht e
  refine ⟨?_, eO, own_turn h.a eT (fun k e => by obtain ⟨cs, hc⟩ := own_typ h.a k e; exact nn hc (fun h => absurd h (by decide)) (fun h => absurd h (by decide)) (fun h => absurd h (by decide)) (fun h => absurd h (by decide)))⟩
  refine sees_after hGs eT (nn h.g (fun h => absurd h (by decide)) (fun h => absurd h (by decide)) (fun h => absurd h (by decide)) (fun h => absurd h (by decide))) ?_ eS (by rw [hx] at eR; exact eR) hrn eC ?_
  · intro k hk hne
    exact nn (hGs.cs k hk) (fun h => absurd h (by decide)) (fun _ => hGs.inj k i hk hlt hne) (fun h => absurd h (by decide)) (fun h => absurd h (by decide))
  · rw [endOf_len]; simp [gdOf, hi]
end

/-- Both sessions, built one behind the other. -/
structure Both (w0 : World) (rgs ms : List Rg) (i : Nat) (g : Rg) (typ : ByteArray) (closed : Int) (prior : List Rc) (im : Bool) (ys : List Int) (S1 G1 R1 O1 S2 G2 R2 O2 : Nat) (W : World) : Prop where
  go : ∃ (b1 b2 : Nat) (tva1 tb1 tva2 tb2 : Option Addr) (ak1 ak2 : Value) (Cb1 Tb1 Cb2 Tb2 : Nat → Nat) (gp1 gp2 : Nat → Option Addr),
    Ses b1 rgs closed prior im ys S1 G1 R1 O1 tva1 tb1 ak1 Cb1 Tb1 gp1 W ∧ Ses b2 ms closed prior im ys S2 G2 R2 O2 tva2 tb2 ak2 Cb2 Tb2 gp2 W ∧
    S1 ≠ S2 ∧ R1 ≠ R2 ∧ O1 ≠ O2 ∧ (∀ j k, j < rgs.length → k < rgs.length → Cb1 j ≠ Cb2 k) ∧ (∀ k, ak1.ownBlock = some k → ak2.ownBlock ≠ some k) ∧
    w0.heap.size ≤ b1 ∧ w0.heap.size ≤ b2 ∧ w0.heap.size ≤ S1 ∧ w0.heap.size ≤ S2 ∧ w0.heap.size ≤ O1 ∧ w0.heap.size ≤ O2

/-- What lies there behind both runs. -/
def After (w0 : World) (rs : List Rc) (css : List (List Ct)) (cl : Int) (im : Bool) (S1 O1 S2 O2 : Nat) (zs ys : List Int) (W : World) : Prop :=
  Sees W S1 rs css cl ∧ Sees W S2 rs css cl ∧ Below w0.heap.size w0 W ∧
  (∃ tb a c, W.heap[O1]? = some (.cells #[.bool im, .slice tb 0 0, .slice a zs.length c] 140) ∧ Rd W a 1 (zs.map fun y => [.int .u32 y])) ∧
  (∃ tb a c, W.heap[O2]? = some (.cells #[.bool im, .slice tb 0 0, .slice a ys.length c] 140) ∧ Rd W a 1 (ys.map fun y => [.int .u32 y]))

theorem cssOf_mods (rgs : List Rg) (i : Nat) (typ : ByteArray) (T N : Nat) (L : List Ct) (Cb Tb Cb' Tb' : Nat → Nat) (gp gp' : Nat → Option Addr) : cssOf (gdOf (mods rgs i typ T) Cb Tb gp) N i L = cssOf (gdOf rgs Cb' Tb' gp') N i L := by
  unfold cssOf
  apply List.map_congr_left
  intro k _
  have : (gdOf (mods rgs i typ T) Cb Tb gp).Ls k = (gdOf rgs Cb' Tb' gp').Ls k := by
    simp only [gdOf, mods_get]
    cases rgs[k]? with
    | none => rfl
    | some g => exact (modRg_cs i typ T k g).1
  rw [this]
theorem clen_mods (rgs : List Rg) (i : Nat) (typ : ByteArray) (T : Nat) : clen (mods rgs i typ T) = clen rgs := by
  funext k
  simp only [clen, mods_get]
  cases rgs[k]? with
  | none => rfl
  | some g => simp [(modRg_cs i typ T k g).1]
theorem endOf_mods (g : Rg) (d : Int) (typ typ' : ByteArray) (closed : Int) (prior : List Rc) (im : Bool) (i T k : Nat) : endOf (modRg i typ' T k g) d typ closed prior im = endOf g d typ closed prior im := by
  obtain ⟨h1, h2, h3, h4, h5, h6, h7⟩ := modRg_cs i typ' T k g
  simp only [endOf, stOf, h1, h4, h5, h6, h7]

/-- The two runs, one behind the other. -/
theorem both_run {w0 : World} {rgs : List Rg} {i : Nat} {g : Rg} {typ : ByteArray} {T : Nat} {closed : Int} {prior : List Rc} {im : Bool} {ys : List Int} {S1 G1 R1 O1 S2 G2 R2 O2 : Nat} {W : World} (h : Both w0 rgs (mods rgs i typ T) i g typ closed prior im ys S1 G1 R1 O1 S2 G2 R2 O2 W) (hb : Below w0.heap.size w0 W) (hi : rgs[i]? = some g) (hs : lsum (clen rgs) rgs.length ≤ 1048576) (hn : rgs.length ≤ 1048576) (hp : prior.length ≤ 1048576) (hy : ys.length ≤ 1048576) (hcl : wrap64 closed = closed) (hm : ∀ c ∈ g.cs, c.m = 0 ∨ c.m = 1) (d : Int) (hd : -4611686018427387904 ≤ d ∧ d ≤ 4611686018427387904) (ask : Bool) :
    ∃ (more : List Rc) (css : List (List Ct)), more.length = cntO g.cs g.hg g.ex g.te g.cs.length ∧ css.length = rgs.length ∧ (∀ cs ∈ css, cs.length ≤ 1048576) ∧
    Calls Try.prog 19 #[.pointer (some ⟨S1, 0, none⟩), .int .i64 d, .pointer (some ⟨G1, i * 5, none⟩), .string typ, .bool ask, .pointer (some ⟨O1, 0, none⟩)] W fun e W' => e = .returned (.tuple #[]) ∧
      Calls Try.prog 21 #[.pointer (some ⟨S2, 0, none⟩), .int .i64 d, .string typ, .pointer (some ⟨O2, 0, none⟩)] W' fun e W'' => e = .returned (.tuple #[]) ∧
        After w0 (prior ++ more) css (wrap64 (closed + more.length)) (im || decide (0 < more.length)) S1 O1 S2 O2 (if ask then ys ++ [g.id] else ys) ys W'' := by
  obtain ⟨b1, b2, tva1, tb1, tva2, tb2, ak1, ak2, Cb1, Tb1, Cb2, Tb2, gp1, gp2, s1, s2, nS, nR, nO, nC, nA, l1, l2, l3, l4, l5, l6⟩ := h.go
  have hlt : i < rgs.length := (List.getElem?_eq_some_iff.1 hi).1
  obtain ⟨more, m1, m2, m3, m4, m5⟩ := stps_says g.id d typ (openIdx (msOf g.cs) g.hg g.ex g.te g.cs.length) (stOf g closed prior im) prior rfl rfl hcl
  have hx : (endOf g d typ closed prior im).xs = rcCells (prior ++ more) := m1
  have hrn : (endOf g d typ closed prior im).n = (prior ++ more).length := by rw [List.length_append]; exact m2
  have hecl : (endOf g d typ closed prior im).cl = wrap64 (closed + more.length) := m4
  have heim : (endOf g d typ closed prior im).im = (im || decide (0 < more.length)) := m5
  have hGs := gs_of s1.g s1.b hs hn
  refine ⟨more, cssOf (gdOf rgs Cb1 Tb1 gp1) rgs.length i (endOf g d typ closed prior im).L, m3, by simp [cssOf], ?_, ?_⟩
  · intro cs hcs
    simp only [cssOf, List.mem_map, List.mem_range] at hcs
    obtain ⟨k, hk, rfl⟩ := hcs
    split
    · rw [endOf_len]
      have := hGs.len hlt
      simpa [gdOf, hi] using this
    · exact hGs.len hk
  have hi2 : (mods rgs i typ T)[i]? = some (modRg i typ T i g) := by rw [mods_get, hi]; rfl
  have hl2 := mods_length rgs i typ T
  obtain ⟨rc1, hR1⟩ := own_block s1.r
  obtain ⟨rc2, hR2⟩ := own_block s2.r
  have hC2 : ∀ k, k < rgs.length → ∃ cs, W.heap[Cb2 k]? = some (.cells cs 82) := by
    intro k hk
    obtain ⟨g', hg'⟩ : ∃ g', (mods rgs i typ T)[k]? = some g' := ⟨_, List.getElem?_eq_getElem (by omega)⟩
    exact ⟨_, (s2.b.1 k g' (by omega) hg').2.1⟩
  refine (run19 s1 hi hs hn hp hy d hd typ ask).mono ?_
  rintro e W' ⟨rfl, hF⟩
  refine ⟨rfl, ?_⟩
  have eT : Turn (fun k => k = S1 ∨ k = Cb1 i ∨ k = O1 ∨ k = R1 ∨ ak1.ownBlock = some k) W W' := by
    obtain ⟨_, _, _, _, _, _, _, _, eT, _⟩ := hF
    exact eT
  have s2' : Ses b2 (mods rgs i typ T) closed prior im ys S2 G2 R2 O2 tva2 tb2 ak2 Cb2 Tb2 gp2 W' := by
    refine s2.turn eT ?_ ?_ ?_ ?_ ?_ ?_
    · exact s1.ne hi s2.s (fun _ => Ne.symm nS) (fun h => absurd h (by decide)) (fun h => absurd h (by decide)) (fun h => absurd h (by decide)) (fun h => absurd h (by decide))
    · exact s1.ne hi hR2 (fun h => absurd h (by decide)) (fun h => absurd h (by decide)) (fun h => absurd h (by decide)) (fun _ => Ne.symm nR) (fun h => absurd h (by decide))
    · exact s1.ne hi s2.o (fun h => absurd h (by decide)) (fun h => absurd h (by decide)) (fun _ => Ne.symm nO) (fun h => absurd h (by decide)) (fun h => absurd h (by decide))
    · intro k hk
      rw [hl2] at hk
      obtain ⟨cs, hc⟩ := hC2 k hk
      exact s1.ne hi hc (fun h => absurd h (by decide)) (fun _ => Ne.symm (nC i k hlt hk)) (fun h => absurd h (by decide)) (fun h => absurd h (by decide)) (fun h => absurd h (by decide))
    · intro k hk
      obtain ⟨cs, hc⟩ := own_typ s2.a k hk
      exact s1.ne hi hc (fun h => absurd h (by decide)) (fun h => absurd h (by decide)) (fun h => absurd h (by decide)) (fun h => absurd h (by decide)) (fun _ h => nA k h hk)
    · intro k cs t hk ht
      refine s1.ne hi hk ?_ ?_ ?_ ?_ ?_ <;> (rintro rfl; rcases ht with ht | ht | ht <;> cases ht)
  have hcs2 : lsum (clen (mods rgs i typ T)) (mods rgs i typ T).length ≤ 1048576 := by rw [clen_mods, hl2]; exact hs
  have hcm := modRg_cs i typ T i g
  refine (run21 s2' hi2 hcs2 (by omega) hp d hd typ (by simp [modRg]) ?_ (by rw [hcm.1]; exact hm)).mono ?_
  · intro k g' hne hg'
    rw [mods_get] at hg'
    obtain ⟨g0, _, rfl⟩ := Option.map_eq_some_iff.1 hg'
    simp [modRg, hne, nilT]
  rintro e W'' ⟨rfl, hF2⟩
  refine ⟨rfl, ?_⟩
  rw [endOf_mods] at hF2
  have eT2 : Turn (fun k => k = S2 ∨ k = Cb2 i ∨ k = O2 ∨ k = R2) W' W'' := hF2.turn
  have Q2 : Sees W'' S2 (prior ++ more) (cssOf (gdOf rgs Cb1 Tb1 gp1) rgs.length i (endOf g d typ closed prior im).L) (endOf g d typ closed prior im).cl ∧ W''.heap[O2]? = some (.cells #[.bool (endOf g d typ closed prior im).im, .slice tb2 0 0, ak2] 140) ∧ W''.ownsRow b2 22 1 ak2 ys.length (u32s ys) := by
    have := sat_sees s2' hi2 hcs2 (by omega) (d := d) (typ := typ) (by rw [endOf_mods]; exact hF2) (prior ++ more) (by rw [endOf_mods]; exact hx) (by rw [endOf_mods]; exact hrn)
    rw [endOf_mods, hl2, cssOf_mods rgs i typ T rgs.length _ Cb2 Tb2 Cb1 Tb1 gp2 gp1] at this
    exact this
  obtain ⟨cC2, hcC2⟩ := hC2 i hlt
  obtain ⟨ak', q1, q2, q3⟩ := fin_sees s1 hi hs hn hF eT2 (by
      have nn := fun e => neT s1.s hcC2 (by decide) e
      rintro (e | e | e | e)
      · exact nS e
      · exact nn e
      · exact neT s1.s s2.o (by decide) e
      · exact neT s1.s hR2 (by decide) e) (by
      rintro (e | e | e | e)
      · exact neT hR1 s2.s (by decide) e
      · exact neT hR1 hcC2 (by decide) e
      · exact neT hR1 s2.o (by decide) e
      · exact nR e) (by
      intro b hb'
      have := heap_lt s2.s; have := heap_lt hcC2; have := heap_lt s2.o; have := heap_lt hR2
      rintro (e | e | e | e) <;> omega) (by
      rintro (e | e | e | e)
      · exact neT s1.o s2.s (by decide) e
      · exact neT s1.o hcC2 (by decide) e
      · exact nO e
      · exact neT s1.o hR2 (by decide) e) (by
      intro k hk
      have hc := hGs.cs k hk
      rintro (e | e | e | e)
      · exact neT hc s2.s (by decide) e
      · exact nC k i hk hlt e
      · exact neT hc s2.o (by decide) e
      · exact neT hc hR2 (by decide) e) (by
      intro b cs t hb' ht
      obtain ⟨rc2', hR2'⟩ := own_block s2'.r
      have hC2' := (s2'.b.1 i _ (by omega) hi2).2.1
      rintro (e | e | e | e)
      · exact neT hb' s2'.s (by rcases ht with rfl | rfl <;> decide) e
      · exact neT hb' hC2' (by rcases ht with rfl | rfl <;> decide) e
      · exact neT hb' s2'.o (by rcases ht with rfl | rfl <;> decide) e
      · exact neT hb' hR2' (by rcases ht with rfl | rfl <;> decide) e) (prior ++ more) hx hrn
  rw [hecl] at q1 Q2
  rw [heim] at q2 Q2
  refine ⟨q1, Q2.1, ?_, ?_, ?_⟩
  · have e1 : Below w0.heap.size W W' := eT.below hb.size (by
      rintro k (e | e | e | e | e)
      · omega
      · have := (s1.b.1 i g hlt hi).1; omega
      · omega
      · have := (s1.r.lt R1 rfl).1; omega
      · have := (s1.a.lt k e).1; omega)
    have e2 : Below w0.heap.size W' W'' := eT2.below (Nat.le_trans hb.size e1.size) (by
      rintro k (e | e | e | e)
      · omega
      · have := (s2.b.1 i _ (by omega) hi2).1; omega
      · omega
      · have := (s2.r.lt R2 rfl).1; omega)
    exact (hb.trans e1).trans e2
  · cases ask with
    | false =>
      obtain ⟨a, c, rfl, r1, _⟩ := rd_u32 (ys := ys) q3 rfl
      exact ⟨tb1, a, c, q2, r1⟩
    | true =>
      have q3' : W''.ownsRow b1 22 1 ak' (ys.length + 1) (u32s (ys ++ [g.id])) := by simpa [u32s] using q3
      obtain ⟨a, c, rfl, r1, _⟩ := rd_u32 (ys := ys ++ [g.id]) q3' (by simp)
      exact ⟨tb1, a, c, q2, r1⟩
  · obtain ⟨a, c, rfl, r1, _⟩ := rd_u32 (ys := ys) Q2.2.2 rfl
    exact ⟨tb2, a, c, Q2.2.1, r1⟩
end Go.Proofs.Qxb6608902a
