import Derived.Test.Qxb6608902aCArm
import Derived.Test.Qxb6608902aBld
namespace Go.Proofs.Qxb6608902a
open Go.RowKit Go.Shelf

theorem GrantAt.later {w w' : World} {gp : Option Addr} {hg ex te : Bool} (h : GrantAt w gp hg ex te) (hb : Below w.heap.size w w') : GrantAt w' gp hg ex te := by
  rcases h with h | ⟨B, e1, e2, e3, e4⟩
  · exact .inl h
  · exact .inr ⟨B, e1, e2, cell_later hb e3, cell_later hb e4⟩

theorem Fin.weaken {X : Cx} {w wB W : World} {st : St} {na : Nat} {ys : List Value} (h : Fin X wB st na ys W) (hb : Below w.heap.size w wB) : Fin X w st na ys W := by
  obtain ⟨R, c, ak, h1, h2, h3, h4, h5, h6, h7⟩ := h
  refine ⟨R, c, ak, h1, h2, h3, h4, h5, (Turn.ofBelow hb).trans h6 (fun _ _ h => h), ?_⟩
  have := hb.size
  rcases h7 with h | h
  · exact .inl h
  · exact .inr (by omega)

theorem Gs.later {G N : Nat} {D : Gd} {w w' : World} (h : Gs G N D w) (hb : Below w.heap.size w w') : Gs G N D w' := by
  refine ⟨?_, ?_, h.inj, ?_, h.sum, h.nn⟩
  · obtain ⟨gc, h1, h2⟩ := h.blk
    exact ⟨gc, (hb.block _ (heap_lt h1)).trans h1, h2⟩
  · intro k hk
    have := h.cs k hk
    exact (hb.block _ (heap_lt this)).trans this
  · intro k hk
    rcases h.gr k hk with h | ⟨B, cs, e1, e2, e3, e4, e5⟩
    · exact .inl h
    · exact .inr ⟨B, cs, e1, e2, (hb.block _ (heap_lt e3)).trans e3, e4, e5⟩

set_option maxHeartbeats 1000000 in
theorem wrap19 (X : Cx) (o : Nat) (gid d : Int) (typ : ByteArray) (ask : Bool) (gp : Option Addr) (hg ex te : Bool) (st : St) (w : World) (hsat : Sat X w st w) (hf : Fit X w)
    (h0 : w.cell? ⟨X.G, o, none⟩ = some (.int .u32 gid)) (h2 : w.cell? ⟨X.G, o + 2, none⟩ = some (.slice (some ⟨X.C, 0, none⟩) st.L.length st.L.length)) (h4 : w.cell? ⟨X.G, o + 4, none⟩ = some (.pointer gp)) (hgr : GrantAt w gp hg ex te)
    (hgn : ∀ B, gp = some ⟨B, 0, none⟩ → ¬ (B = X.S ∨ B = X.C ∨ B = X.O ∨ B = X.R)) (hX : X.S < w.heap.size ∧ X.C < w.heap.size ∧ X.O < w.heap.size ∧ X.R < w.heap.size) (hd : -4611686018427387904 ≤ d ∧ d ≤ 4611686018427387904) (hL : st.L.length ≤ 1048576) (hn : st.n ≤ 1048576) (na : Nat) (ys : List Value) (hna : na ≤ 1048576) (hak : w.ownsRow X.base 22 1 X.ak na ys) (hRt : ∃ cs, w.heap[X.R]? = some (.cells cs 97)) :
    Calls Try.prog 19 #[.pointer (some ⟨X.S, 0, none⟩), .int .i64 d, .pointer (some ⟨X.G, o, none⟩), .string typ, .bool ask, .pointer (some ⟨X.O, 0, none⟩)] w fun e w' => e = .returned (.tuple #[]) ∧
      Fin X w (stps gid d typ st (openIdx (msOf st.L) hg ex te st.L.length)) (if ask then na + 1 else na) (if ask then ys ++ [.int .u32 gid] else ys) w' := by
  obtain ⟨na', hna'⟩ : ∃ n, n = (if ask then na + 1 else na) := ⟨_, rfl⟩
  obtain ⟨ys', hys'⟩ : ∃ n, n = (if ask then ys ++ [.int .u32 gid] else ys) := ⟨_, rfl⟩
  rw [← hna', ← hys']
  have H : ∀ wB, Below w.heap.size w wB → Hid (Calls Try.prog 40 #[.pointer (some ⟨X.S, 0, none⟩), .agg #[.int .u64 (nsOf d), .int .i64 (secOf d), .pointer none], .pointer (some ⟨X.G, o, none⟩), .string typ, .bool ask, .pointer (some ⟨X.O, 0, none⟩)] wB fun e w' => e = .returned (.tuple #[]) ∧
      Fin X w (stps gid d typ st (openIdx (msOf st.L) hg ex te st.L.length)) na' ys' w') := by
    intro wB hb
    rw [hna', hys']
    have hs := hb.size
    obtain ⟨cs, hr⟩ := hRt
    have h := quota40 X o gid d typ ask gp hg ex te st wB (hsat.start hb) (hf.later hb) (cell_later hb h0) (cell_later hb h2) (cell_later hb h4) (hgr.later hb) hgn (by omega) hd hL hn na ys hna (own_later97 hak hb) ⟨cs, (hb.block _ (heap_lt hr)).trans hr⟩
    exact h.mono fun e w' ⟨h1, h2⟩ => ⟨h1, h2.weaken hb⟩
  clear hsat hf h0 h2 h4 hgr hgn hX hL hn hna hak hRt hna' hys'
  go_enter Try.func19, Try.ntmps19
  go_wp2_with fail
  refine (add41 d _ (by omega)).mono ?_
  rintro e w1 ⟨rfl, hb⟩
  go_wp2_with fail
  refine Calls.mono (Hid.out (H w1 hb)) ?_
  rintro e w2 ⟨rfl, hF⟩
  have HF : Hid _ := hF
  clear hF H
  go_wp2
  go_end0
  exact ⟨rfl, Hid.out HF⟩

set_option maxHeartbeats 1000000 in
theorem get20 (S G N i : Nat) (tv : Value) (cl : Int) (rv : Value) (w : World) (hi : i < N) (h : w.heap[S]? = some (.cells (sess (.slice (some ⟨G, 0, none⟩) N N) tv cl rv) 116)) :
    Calls Try.prog 20 #[.pointer (some ⟨S, 0, none⟩), .int .i64 i] w fun e w' => e = .returned (.pointer (some ⟨G, i * 5, none⟩)) ∧ w' = w := by
  have h4 : w.cell? ⟨S, 4, none⟩ = some (.slice (some ⟨G, 0, none⟩) N N) := by rw [cell_of_row _ _ _ _ _ _ h]; rfl
  have b1 : (0 : Int) ≤ (i : Int) := by omega
  have b2 : (i : Int) < (N : Int) := by omega
  clear h
  go_enter Try.func20, Try.ntmps20
  go_wp2
  go_ret
  refine ⟨?_, rfl⟩
  simp

set_option maxHeartbeats 1000000 in
theorem wrap21 (X : Cx) (D : Gd) (i T : Nat) (tva : Option Addr) (tvc : Nat) (d : Int) (typ : ByteArray) (st : St) (w : World) (hi : i < X.N) (hC : X.C = D.Cb i) (hL : st.L = D.Ls i) (htv : X.tv = .slice tva 0 tvc) (hsat : Sat X w st w) (hf : Fit X w) (hG : Gs X.G X.N D w)
    (ht : ∀ k, k < X.N → k ≠ i → ∃ ta tc, D.tg k = .slice ta 0 tc) (hti : D.tg i = .slice (some ⟨T, 0, none⟩) 1 1) (tt : Array Value) (hT : w.heap[T]? = some (.cells tt 137)) (hT0 : tt[0]? = some (.string typ)) (hT6 : tt[6]? = some (.int .u8 2)) (hT7 : tt[7]? = some (.int .u8 0))
    (hm : ∀ c ∈ st.L, c.m = 0 ∨ c.m = 1) (hR : ∃ cs, w.heap[X.R]? = some (.cells cs 97)) (hd : -4611686018427387904 ≤ d ∧ d ≤ 4611686018427387904) (hn : st.n ≤ 1048576) :
    Calls Try.prog 21 #[.pointer (some ⟨X.S, 0, none⟩), .int .i64 d, .string typ, .pointer (some ⟨X.O, 0, none⟩)] w fun e w' => e = .returned (.tuple #[]) ∧
      Sat X w (stps (D.gid i) d typ st (openIdx (msOf st.L) (D.hg i) (D.ex i) (D.te i) st.L.length)) w' := by
  have H : ∀ wB, Below w.heap.size w wB → Hid (Calls Try.prog 42 #[.pointer (some ⟨X.S, 0, none⟩), .agg #[.int .u64 (nsOf d), .int .i64 (secOf d), .pointer none], .string typ, .nilFunc, .pointer (some ⟨X.O, 0, none⟩)] wB fun e w' => e = .returned (.tuple #[]) ∧
      Sat X w (stps (D.gid i) d typ st (openIdx (msOf st.L) (D.hg i) (D.ex i) (D.te i) st.L.length)) w') := by
    intro wB hb
    obtain ⟨cs, hr⟩ := hR
    have h := armed42 X D i T tva tvc d typ st wB hi hC hL htv (hsat.start hb) (hf.later hb) (hG.later hb) ht hti tt ((hb.block _ (heap_lt hT)).trans hT) hT0 hT6 hT7 hm ⟨cs, (hb.block _ (heap_lt hr)).trans hr⟩ hd hn
    exact h.mono fun e w' ⟨h1, h2⟩ => ⟨h1, h2.weaken hb⟩
  clear hi hC hL htv hsat hf hG ht hti hT hT0 hT6 hT7 hm hR hn
  go_enter Try.func21, Try.ntmps21
  go_wp2_with fail
  refine (add41 d _ (by omega)).mono ?_
  rintro e w1 ⟨rfl, hb⟩
  go_wp2_with fail
  refine Calls.mono (Hid.out (H w1 hb)) ?_
  rintro e w2 ⟨rfl, hF⟩
  have HF : Hid _ := hF
  clear hF H
  go_wp2
  go_end0
  exact ⟨rfl, Hid.out HF⟩
end Go.Proofs.Qxb6608902a
