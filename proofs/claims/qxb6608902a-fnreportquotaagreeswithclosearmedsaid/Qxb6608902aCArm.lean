import Derived.Test.Qxb6608902aMark
namespace Go.Proofs.Qxb6608902a
open Go.RowKit Go.Shelf
attribute [local go_sem] Oper.semAt_some

theorem wrap_succ (k n : Nat) (h : k < n) (h2 : n ≤ 1048576) : wrap64 ((k : Int) + 1) = ((k + 1 : Nat) : Int) := by
  unfold wrap64; omega

theorem stp_off (gid d : Int) (typ : ByteArray) (st : St) (j : Nat) (h : msOf st.L j ≠ 0) : stp gid d typ st j = st := by
  unfold stp
  split
  · rfl
  · rename_i c hc
    rw [if_neg]
    rw [← msOf_some hc]; exact h

theorem wpAnyLIn_one {F : Fence} {n : Nat} {P : Program} {ops : Array Oper} {Q : Exit → Act → World → Prop} {md : Region.Mode} {S : World → Prop} {k : Nat} {i : Nat} {o : Oper} {fuel : Nat} {listed : Array Bool} {a : Act} {w : World} (ho : ops[i]? = some o) (hr : (Region.ready md ops listed == [i]) = true)
    (h : ∀ K' : Act → World → Prop, Shut (∀ a w, S w → (S w → wpAnyLIn F n P md ops Q S k fuel (listed.setIfInBounds i true) a w) → K' a w) → if Region.wanted o (yielded ops a.tmps) = true then Oper.wpIn F n P o a w K' Q else (∀ f, o.about P w a.eval = some f → F.fn f) ∧ K' (a.put o.dst undef) w) :
    wpAnyLIn F n P md ops Q S k (fuel + 1) listed a w := by
  have hr' : Region.ready md ops listed = [i] := by simpa using hr
  refine ⟨fun h0 => (by rw [h0] at hr'; cases hr'), fun j hj => ?_⟩
  rw [hr'] at hj
  obtain rfl : j = i := by simpa using hj
  exact wpOpIn_step ho (fun K' hK => h K' (fun a w hS hW => hK a w ⟨fun _ => hS, hW hS⟩))

set_option linter.unusedSimpArgs false in
set_option linter.unusedVariables false in
set_option maxRecDepth 100000 in
set_option maxHeartbeats 1000000 in
theorem armed42 (X : Cx) (D : Gd) (i T : Nat) (tva : Option Addr) (tvc : Nat) (d : Int) (typ : ByteArray) (st : St) (w : World) (hi : i < X.N) (hC : X.C = D.Cb i) (hL : st.L = D.Ls i) (htv : X.tv = .slice tva 0 tvc) (hsat : Sat X w st w) (hf : Fit X w) (hG : Gs X.G X.N D w)
    (ht : ∀ k, k < X.N → k ≠ i → ∃ ta tc, D.tg k = .slice ta 0 tc) (hti : D.tg i = .slice (some ⟨T, 0, none⟩) 1 1) (tt : Array Value) (hT : w.heap[T]? = some (.cells tt 137)) (hT0 : tt[0]? = some (.string typ)) (hT6 : tt[6]? = some (.int .u8 2)) (hT7 : tt[7]? = some (.int .u8 0))
    (hm : ∀ c ∈ st.L, c.m = 0 ∨ c.m = 1) (hR : ∃ cs, w.heap[X.R]? = some (.cells cs 97)) (hd : -4611686018427387904 ≤ d ∧ d ≤ 4611686018427387904) (hn : st.n ≤ 1048576) :
    Calls Try.prog 42 #[.pointer (some ⟨X.S, 0, none⟩), .agg #[.int .u64 (nsOf d), .int .i64 (secOf d), .pointer none], .string typ, .nilFunc, .pointer (some ⟨X.O, 0, none⟩)] w fun e w' => e = .returned (.tuple #[]) ∧
      Sat X w (stps (D.gid i) d typ st (openIdx (msOf st.L) (D.hg i) (D.ex i) (D.te i) st.L.length)) w' := by
  have hb : Below w.heap.size w ((((((w.alloc (.cells #[.pointer (some ⟨X.S, 0, none⟩)] 54)).alloc (.cells #[.int .u64 (nsOf d), .int .i64 (secOf d), .pointer none] 112)).alloc (.cells #[.string typ] 93)).alloc (.cells #[.nilFunc] 148)).alloc (.cells #[.pointer (some ⟨X.O, 0, none⟩)] 56)).alloc (.cells #[.bool false] 4)) := by
    repeat (first | exact Below.refl _ _ | refine Below.alloc ?_ (by simp; omega) _ | refine Below.alloc ?_ (by simp) _)
  have hsz : ((((((w.alloc (.cells #[.pointer (some ⟨X.S, 0, none⟩)] 54)).alloc (.cells #[.int .u64 (nsOf d), .int .i64 (secOf d), .pointer none] 112)).alloc (.cells #[.string typ] 93)).alloc (.cells #[.nilFunc] 148)).alloc (.cells #[.pointer (some ⟨X.O, 0, none⟩)] 56)).alloc (.cells #[.bool false] 4)).heap.size = w.heap.size + 6 := by simp
  have hXl : X.S < w.heap.size ∧ X.C < w.heap.size ∧ X.O < w.heap.size ∧ X.R < w.heap.size := by
    obtain ⟨cs, hr⟩ := hR
    obtain ⟨R', c', eS, _, eC, eO, _⟩ := hsat
    exact ⟨heap_lt eS, heap_lt eC, heap_lt eO, heap_lt hr⟩
  have hS4 : ((((((w.alloc (.cells #[.pointer (some ⟨X.S, 0, none⟩)] 54)).alloc (.cells #[.int .u64 (nsOf d), .int .i64 (secOf d), .pointer none] 112)).alloc (.cells #[.string typ] 93)).alloc (.cells #[.nilFunc] 148)).alloc (.cells #[.pointer (some ⟨X.O, 0, none⟩)] 56)).alloc (.cells #[.bool false] 4)).cell? ⟨X.S, 4, none⟩ = some (.slice (some ⟨X.G, 0, none⟩) X.N X.N) := by
    refine cell_later hb ?_
    obtain ⟨R', c', eS, _⟩ := hsat
    rw [cell_of_row _ _ _ _ _ _ eS]; rfl
  have k0 : ((((((w.alloc (.cells #[.pointer (some ⟨X.S, 0, none⟩)] 54)).alloc (.cells #[.int .u64 (nsOf d), .int .i64 (secOf d), .pointer none] 112)).alloc (.cells #[.string typ] 93)).alloc (.cells #[.nilFunc] 148)).alloc (.cells #[.pointer (some ⟨X.O, 0, none⟩)] 56)).alloc (.cells #[.bool false] 4)).cell? ⟨w.heap.size, 0, none⟩ = some (.pointer (some ⟨X.S, 0, none⟩)) := by go_simp
  have k1 : ((((((w.alloc (.cells #[.pointer (some ⟨X.S, 0, none⟩)] 54)).alloc (.cells #[.int .u64 (nsOf d), .int .i64 (secOf d), .pointer none] 112)).alloc (.cells #[.string typ] 93)).alloc (.cells #[.nilFunc] 148)).alloc (.cells #[.pointer (some ⟨X.O, 0, none⟩)] 56)).alloc (.cells #[.bool false] 4)).cell? ⟨w.heap.size + 1, 0, none⟩ = some (.int .u64 (nsOf d)) := by go_simp
  have k2 : ((((((w.alloc (.cells #[.pointer (some ⟨X.S, 0, none⟩)] 54)).alloc (.cells #[.int .u64 (nsOf d), .int .i64 (secOf d), .pointer none] 112)).alloc (.cells #[.string typ] 93)).alloc (.cells #[.nilFunc] 148)).alloc (.cells #[.pointer (some ⟨X.O, 0, none⟩)] 56)).alloc (.cells #[.bool false] 4)).cell? ⟨w.heap.size + 1, 1, none⟩ = some (.int .i64 (secOf d)) := by go_simp
  have k3 : ((((((w.alloc (.cells #[.pointer (some ⟨X.S, 0, none⟩)] 54)).alloc (.cells #[.int .u64 (nsOf d), .int .i64 (secOf d), .pointer none] 112)).alloc (.cells #[.string typ] 93)).alloc (.cells #[.nilFunc] 148)).alloc (.cells #[.pointer (some ⟨X.O, 0, none⟩)] 56)).alloc (.cells #[.bool false] 4)).cell? ⟨w.heap.size + 1, 2, none⟩ = some (.pointer none) := by go_simp
  have k4 : ((((((w.alloc (.cells #[.pointer (some ⟨X.S, 0, none⟩)] 54)).alloc (.cells #[.int .u64 (nsOf d), .int .i64 (secOf d), .pointer none] 112)).alloc (.cells #[.string typ] 93)).alloc (.cells #[.nilFunc] 148)).alloc (.cells #[.pointer (some ⟨X.O, 0, none⟩)] 56)).alloc (.cells #[.bool false] 4)).cell? ⟨w.heap.size + 1 + 1, 0, none⟩ = some (.string typ) := by go_simp
  have k5 : ((((((w.alloc (.cells #[.pointer (some ⟨X.S, 0, none⟩)] 54)).alloc (.cells #[.int .u64 (nsOf d), .int .i64 (secOf d), .pointer none] 112)).alloc (.cells #[.string typ] 93)).alloc (.cells #[.nilFunc] 148)).alloc (.cells #[.pointer (some ⟨X.O, 0, none⟩)] 56)).alloc (.cells #[.bool false] 4)).cell? ⟨w.heap.size + 1 + 1 + 1, 0, none⟩ = some (.nilFunc) := by go_simp
  have k6 : ((((((w.alloc (.cells #[.pointer (some ⟨X.S, 0, none⟩)] 54)).alloc (.cells #[.int .u64 (nsOf d), .int .i64 (secOf d), .pointer none] 112)).alloc (.cells #[.string typ] 93)).alloc (.cells #[.nilFunc] 148)).alloc (.cells #[.pointer (some ⟨X.O, 0, none⟩)] 56)).alloc (.cells #[.bool false] 4)).cell? ⟨w.heap.size + 1 + 1 + 1 + 1, 0, none⟩ = some (.pointer (some ⟨X.O, 0, none⟩)) := by go_simp
  have k7 : ((((((w.alloc (.cells #[.pointer (some ⟨X.S, 0, none⟩)] 54)).alloc (.cells #[.int .u64 (nsOf d), .int .i64 (secOf d), .pointer none] 112)).alloc (.cells #[.string typ] 93)).alloc (.cells #[.nilFunc] 148)).alloc (.cells #[.pointer (some ⟨X.O, 0, none⟩)] 56)).alloc (.cells #[.bool false] 4)).heap[w.heap.size + 1 + 1 + 1 + 1 + 1]? = some (.cells #[.bool false] 4) := by rw [show w.heap.size + 1 + 1 + 1 + 1 + 1 = (((((w.alloc (.cells #[.pointer (some ⟨X.S, 0, none⟩)] 54)).alloc (.cells #[.int .u64 (nsOf d), .int .i64 (secOf d), .pointer none] 112)).alloc (.cells #[.string typ] 93)).alloc (.cells #[.nilFunc] 148)).alloc (.cells #[.pointer (some ⟨X.O, 0, none⟩)] 56)).heap.size from by simp]; exact heap_alloc_new _ _
  refine (callsIn_wide (n := 10)).1 ?_
  refine callsIn_of_wp_marks Try.func42 rfl trivial ?_ rfl
  simp only [Try.ntmps42, List.size_toArray, List.length_cons, List.length_nil, Nat.reduceAdd, Nat.reduceSub, Array.replicate_succ, Array.replicate_zero, List.push_toArray, List.append_toArray, List.nil_append, List.cons_append]
  gi_wp2_with fail
  generalize ((((((w.alloc (.cells #[.pointer (some ⟨X.S, 0, none⟩)] 54)).alloc (.cells #[.int .u64 (nsOf d), .int .i64 (secOf d), .pointer none] 112)).alloc (.cells #[.string typ] 93)).alloc (.cells #[.nilFunc] 148)).alloc (.cells #[.pointer (some ⟨X.O, 0, none⟩)] 56)).alloc (.cells #[.bool false] 4)) = wB at *
  have sB : Sat X wB st wB := hsat.start hb
  have fB : Fit X wB := hf.later hb
  clear hS4
  refine wpIn_loop (fun a' W => ∃ (k : Nat) (u11 u12 u22 u23 u24 u25 u26 u27 u28 u29 u30 u31 u79 : Value) (ds : List Deferred), k ≤ X.N ∧ Marks wB.heap.size W.heap.size ds W ∧ Sat X wB (if k ≤ i then st else stps (D.gid i) d typ st (openIdx (msOf st.L) (D.hg i) (D.ex i) (D.te i) st.L.length)) W ∧
      a' = { tmps := #[.pointer (some ⟨X.S, 0, none⟩), .agg #[.int .u64 (nsOf d), .int .i64 (secOf d), .pointer none], .string typ, .nilFunc, .pointer (some ⟨X.O, 0, none⟩), .pointer (some ⟨w.heap.size, 0, none⟩), .pointer (some ⟨w.heap.size + 1, 0, none⟩), .pointer (some ⟨w.heap.size + 1 + 1, 0, none⟩), .pointer (some ⟨w.heap.size + 1 + 1 + 1, 0, none⟩), .pointer (some ⟨w.heap.size + 1 + 1 + 1 + 1, 0, none⟩), .pointer (some ⟨w.heap.size + 1 + 1 + 1 + 1 + 1, 0, none⟩), u11, u12, undef, undef, undef, .pointer (some ⟨X.S, 0, none⟩), .pointer (some ⟨X.S, 0, none⟩), .pointer (some ⟨X.S, 4, none⟩), .slice (some ⟨X.G, 0, none⟩) X.N X.N, .int .i64 X.N, .int .i64 k, u22, u23, u24, u25, u26, u27, u28, u29, u30, u31, undef, undef, undef, undef, undef, undef, undef, undef, undef, undef, undef, undef, undef, undef, undef, undef, undef, undef, undef, undef, undef, undef, undef, undef, undef, undef, undef, undef, undef, undef, undef, undef, undef, undef, undef, undef, undef, undef, undef, undef, undef, undef, undef, undef, undef, undef, undef, u79, undef, undef, undef, undef, undef, undef, undef, undef, undef, undef, undef, undef], defers := ds }) (fun a' _ => X.N - (intOf (a'.tmps.getD 21 undef)).toNat) ?_ ?_
  · exact ⟨0, _, _, _, _, _, _, _, _, _, _, _, _, _, [], Nat.zero_le _, trivial, by rw [if_pos (Nat.zero_le _)]; exact sB, rfl⟩
  · rintro a' wr ⟨k, u11, u12, u22, u23, u24, u25, u26, u27, u28, u29, u30, u31, u79, ds, hk, hM, hS, rfl⟩
    dsimp only
    have hS4 : wr.cell? ⟨X.S, 4, none⟩ = some (.slice (some ⟨X.G, 0, none⟩) X.N X.N) := by
      obtain ⟨R', c', eS, _⟩ := hS
      rw [cell_of_row _ _ _ _ _ _ eS]; rfl
    have j0 := hS.turn.cell k0 (by dsimp only; omega)
    have j7 : wr.heap[w.heap.size + 1 + 1 + 1 + 1 + 1]? = some (.cells #[.bool false] 4) := hS.turn.at k7 (by omega)
    have j7c : wr.cell? ⟨w.heap.size + 1 + 1 + 1 + 1 + 1, 0, none⟩ = some (.bool false) := by rw [cell_of_row _ _ _ _ _ _ j7]; rfl
    by_cases hlt : k < X.N
    · have b1 : (0 : Int) ≤ (k : Int) := by omega
      have b2 : (k : Int) < (X.N : Int) := by omega
      gi_wp2_with fail
      refine ⟨trivial, ?_⟩
      refine (callsIn_wide.2 (open52 _ _)).mono ?_
      rintro e w' ⟨rfl, rfl⟩
      gi_wp2_with fail
      have hbk : Below wr.heap.size wr ((wr.alloc (.cells #[.pointer (some ⟨X.G, k * 5, none⟩)] 59)).alloc (.cells #[.pointer (some ⟨X.G, k * 5, none⟩)] 59)) := ((Below.refl _ wr).alloc (Nat.le_refl _) _).alloc (by simp) _
      have szk : ((wr.alloc (.cells #[.pointer (some ⟨X.G, k * 5, none⟩)] 59)).alloc (.cells #[.pointer (some ⟨X.G, k * 5, none⟩)] 59)).heap.size = wr.heap.size + 2 := by simp
      have k12 : ((wr.alloc (.cells #[.pointer (some ⟨X.G, k * 5, none⟩)] 59)).alloc (.cells #[.pointer (some ⟨X.G, k * 5, none⟩)] 59)).cell? ⟨wr.heap.size, 0, none⟩ = some (.pointer (some ⟨X.G, k * 5, none⟩)) := by go_simp
      have kbn : ((wr.alloc (.cells #[.pointer (some ⟨X.G, k * 5, none⟩)] 59)).alloc (.cells #[.pointer (some ⟨X.G, k * 5, none⟩)] 59)).cell? ⟨wr.heap.size + 1, 0, none⟩ = some (.pointer (some ⟨X.G, k * 5, none⟩)) := by go_simp
      generalize ((wr.alloc (.cells #[.pointer (some ⟨X.G, k * 5, none⟩)] 59)).alloc (.cells #[.pointer (some ⟨X.G, k * 5, none⟩)] 59)) = wk at *
      have hSz := hS.turn.size
      have hSk := hS.own (below_grown hbk) (fun r e => by cases e)
      have hMk : Marks wB.heap.size wk.heap.size ds wk := (hM.own (below_grown hbk) (fun r e => by cases e)).mono hbk.size
      obtain ⟨gc, gw, gcs⟩ := hG.blk
      have gB := (hb.block _ (heap_lt gw)).trans gw
      obtain ⟨gi1, gi2, gi3, gi4⟩ := gcs k hlt
      have TB : ∀ {s' : St} {A : World}, Sat X wB s' A → A.heap[X.G]? = some (.cells gc 89) := fun h => h.turn.at gB fB.ne
      obtain ⟨R', hR1, ⟨rc, hrc⟩, sR, chain0⟩ := hS.again
      have hRlt := heap_lt hrc
      have sK : Sat { X with R := R' } wk _ wk := sR.start hbk
      have chain : ∀ st' W', Sat { X with R := R' } wk st' W' → Sat X wB st' W' := fun st' W' h => chain0 _ _ (h.weaken hbk)
      have gk := TB hSk
      have rk := (hbk.block _ hRlt).trans hrc
      have hXn := fB.ne
      have hGR : X.G ≠ R' := neT gk rk (by decide)
      have fK : Fit { X with R := R' } wk := by
        refine ⟨?_, ?_, fB.sum, fB.nn, ?_⟩
        · obtain ⟨gc', e1, e2⟩ := fB.g
          rw [gB] at e1; cases e1
          exact ⟨_, gk, e2⟩
        · dsimp only; omega
        · have := fB.base; have := hbk.size; dsimp only; omega
      have hgrB : GrantT wB (D.gp k) (D.hg k) (D.ex k) (D.te k) := (hG.gr k hlt).turn (R := fun _ => False) (Turn.ofBelow hb) (fun _ _ h => h)
      have hgn : ∀ B, D.gp k = some ⟨B, 0, none⟩ → ¬ (B = X.S ∨ B = X.C ∨ B = X.O ∨ B = X.R) := by
        intro B hB
        have hg0 := hG.gr k hlt
        obtain ⟨cs, hr⟩ := hR
        obtain ⟨_, _, eS, _, eC, eO, _⟩ := hsat
        rintro (e | e | e | e)
        · exact hg0.ne eS (by decide) B hB e
        · exact hg0.ne eC (by decide) B hB e
        · exact hg0.ne eO (by decide) B hB e
        · exact hg0.ne hr (by decide) B hB e
      have hgrk : GrantT wk (D.gp k) (D.hg k) (D.ex k) (D.te k) := hgrB.turn hSk.turn hgn
      have hgnk : ∀ B, D.gp k = some ⟨B, 0, none⟩ → ¬ (B = X.S ∨ B = X.C ∨ B = X.O ∨ B = R') := by
        intro B hB
        have h1 := hgn B hB
        have h2 := hgrk.ne rk (by decide) B hB
        omega
      have hCB : k ≠ i → wB.heap[D.Cb k]? = some (.cells (ctCells (D.Ls k)).toArray 82) := fun _ => (hb.block _ (heap_lt (hG.cs k hlt))).trans (hG.cs k hlt)
      have hCn : k ≠ i → ¬ (D.Cb k = X.S ∨ D.Cb k = X.C ∨ D.Cb k = X.O ∨ D.Cb k = X.R) := by
        intro hki
        have hc0 := hG.cs k hlt
        have hinj := hG.inj k i hlt hi hki
        obtain ⟨cs, hr⟩ := hR
        obtain ⟨_, _, eS, _, eC, eO, _⟩ := hsat
        rintro (e | e | e | e)
        · exact neT hc0 eS (by decide) e
        · exact hinj (e.trans hC)
        · exact neT hc0 eO (by decide) e
        · exact neT hc0 hr (by decide) e
      have stk : (if k ≤ i then st else stps (D.gid i) d typ st (openIdx (msOf st.L) (D.hg i) (D.ex i) (D.te i) st.L.length)).L.map Ct.m = st.L.map Ct.m := by
        split
        · rfl
        · exact stps_map _ _ _ _ _
      have gcell : ∀ {A : World} {s' : St} (q : Nat) (v : Value), Sat X wB s' A → gc[q]? = some v → A.cell? ⟨X.G, q, none⟩ = some v := by
        intro A s' q v h hq
        rw [cell_of_row _ _ _ _ _ _ (TB h)]; exact hq
      have hIt : ∀ (pre : List Nat) (A : World), Sat { X with R := R' } wk (if k = i then stps (D.gid i) d typ st pre else (if k ≤ i then st else stps (D.gid i) d typ st (openIdx (msOf st.L) (D.hg i) (D.ex i) (D.te i) st.L.length))) A → ItOK (wr.heap.size + 1) X.G (k * 5) (D.Cb k) (D.Ls k).length (msOf (D.Ls k)) (D.gp k) (D.hg k) (D.ex k) (D.te k) A := by
        intro pre A h
        by_cases hki : k = i
        · subst hki
          rw [if_pos rfl] at h
          have := h.it (st0 := st) (Bn := wr.heap.size + 1) (o := k * 5) (gp := D.gp k) (hg := D.hg k) (ex := D.ex k) (te := D.te k) (gid := D.gid k) fK (stps_map _ _ _ _ _) ?_
          · rw [hL] at this
            dsimp only at this
            rw [hC] at this
            exact this
          · refine ⟨kbn, by dsimp only; omega, gcell _ _ hSk gi1, ?_, gcell _ _ hSk gi4, hgrk.at, by dsimp only; exact hgnk⟩
            dsimp only
            rw [hC, hL]
            exact gcell _ _ hSk gi2
        · have hT' := (chain _ _ h).turn
          have hTk := h.turn
          have hgA : GrantT A (D.gp k) (D.hg k) (D.ex k) (D.te k) := hgrB.turn hT' hgn
          refine ⟨hTk.cell kbn (by dsimp only; omega), gcell _ _ (chain _ _ h) gi2, gcell _ _ (chain _ _ h) gi4, ?_, hgA.at⟩
          intro j hj
          have hc := hT'.at (hCB hki) (hCn hki)
          rw [cell_of_row _ _ _ _ _ _ hc]
          have := ctCells_get (D.Ls k) j 2 (D.Ls k)[j] (List.getElem?_eq_getElem hj) (by omega)
          rw [msOf_some (List.getElem?_eq_getElem hj)]
          simpa [Ct.cells] using this
      have hsk1 : k = i → (if k ≤ i then st else stps (D.gid i) d typ st (openIdx (msOf st.L) (D.hg i) (D.ex i) (D.te i) st.L.length)) = st := fun e => by rw [if_pos (by omega)]
      have hsk2 : k ≠ i → (if k ≤ i then st else stps (D.gid i) d typ st (openIdx (msOf st.L) (D.hg i) (D.ex i) (D.te i) st.L.length)) = (if k + 1 ≤ i then st else stps (D.gid i) d typ st (openIdx (msOf st.L) (D.hg i) (D.ex i) (D.te i) st.L.length)) := fun e => by
        by_cases h : k ≤ i
        · rw [if_pos h, if_pos (by omega)]
        · rw [if_neg h, if_neg (by omega)]
      generalize (if k ≤ i then st else stps (D.gid i) d typ st (openIdx (msOf st.L) (D.hg i) (D.ex i) (D.te i) st.L.length)) = sk at *
      have h0K : Sat { X with R := R' } wk (if k = i then stps (D.gid i) d typ st [] else sk) wk := by
        by_cases hki : k = i
        · rw [if_pos hki]; rw [hsk1 hki] at sK; exact sK
        · rw [if_neg hki]; exact sK
      obtain ⟨I, hI0⟩ : ∃ I : List { j : Nat // j < (D.Ls k).length } → World → Prop, ∀ pre W, I pre W ↔ (Sat { X with R := R' } wk (if k = i then stps (D.gid i) d typ st (pre.map Subtype.val) else sk) W ∧ Marks wB.heap.size wk.heap.size ds W) := ⟨_, fun _ _ => Iff.rfl⟩
      refine wpIn_rangeFunc_ownG rfl (by omega) (gf := 60) (lb := #[.pointer (some ⟨wr.heap.size + 1, 0, none⟩)]) rfl trivial (enters_of Try.func60 (by kernel_rfl) rfl)
        (open_stops 9 (by omega) (wr.heap.size + 1) X.G (k * 5) (D.Cb k) (D.Ls k).length (hG.len hlt) (msOf (D.Ls k)) (D.gp k) (D.hg k) (D.ex k) (D.te k) wk (hIt [] wk h0K))
        (fun h1 h2 h => h2 (h1 h))
        (fun W l o o' _ hl hc _ hi => hi.keep fun p v hp => cell_kept hp (grownBy_putObj' W l o') (fun r e => by cases e; exact ⟨_, hl, hc⟩))
        (Below.refl _ _) (fun _ => rfl)
        I (fun _ _ _ => False)
        (fun s A B row hs hg hr => (hI0 _ _).2 ⟨((hI0 _ _).1 hs).1.own hg hr, ((hI0 _ _).1 hs).2.own hg (fun r e => (hr r e).1)⟩) (fun _ _ _ _ _ h _ _ => h) ((hI0 _ _).2 ⟨h0K, hMk⟩)
        (fun x => { tmps := #[.pointer (some ⟨X.S, 0, none⟩), .agg #[.int .u64 (nsOf d), .int .i64 (secOf d), .pointer none], .string typ, .nilFunc, .pointer (some ⟨X.O, 0, none⟩), .pointer (some ⟨w.heap.size, 0, none⟩), .pointer (some ⟨w.heap.size + 1, 0, none⟩), .pointer (some ⟨w.heap.size + 1 + 1, 0, none⟩), .pointer (some ⟨w.heap.size + 1 + 1 + 1, 0, none⟩), .pointer (some ⟨w.heap.size + 1 + 1 + 1 + 1, 0, none⟩), .pointer (some ⟨w.heap.size + 1 + 1 + 1 + 1 + 1, 0, none⟩), .int .i64 k, .pointer (some ⟨wr.heap.size, 0, none⟩), .pointer (some ⟨D.Cb k, x.1 * 5, none⟩), undef, undef, .pointer (some ⟨X.S, 0, none⟩), .pointer (some ⟨X.S, 0, none⟩), .pointer (some ⟨X.S, 4, none⟩), .slice (some ⟨X.G, 0, none⟩) X.N X.N, .int .i64 X.N, .int .i64 k, .bool true, .int .i64 k, .pointer (some ⟨X.S, 0, none⟩), .pointer (some ⟨X.S, 0, none⟩), .pointer (some ⟨X.S, 4, none⟩), .slice (some ⟨X.G, 0, none⟩) X.N X.N, .int .i64 k, .pointer (some ⟨X.G, k * 5, none⟩), .pointer (some ⟨X.G, k * 5, none⟩), .func (.func 60) #[] #[.pointer (some ⟨wr.heap.size + 1, 0, none⟩)], .pointer (some ⟨D.Cb k, x.1 * 5, none⟩), undef, undef, undef, undef, undef, undef, undef, undef, undef, undef, undef, undef, undef, undef, undef, undef, undef, undef, undef, undef, undef, undef, undef, undef, undef, undef, undef, undef, undef, undef, undef, undef, undef, undef, undef, undef, undef, undef, undef, undef, undef, undef, undef, undef, undef, undef, u79, undef, undef, undef, undef, undef, undef, undef, undef, undef, undef, undef, undef], defers := [] }) ?assign ?body ?done ?stop
      case assign =>
        intro l x W K hK
        gi_wp2
        exact hK
      case body =>
        rintro l pre x W hIw hltp
        obtain ⟨hI, hMW⟩ := (hI0 _ _).1 hIw
        have HI0 : Hid _ := hI0
        clear hI0 hIw
        have hit := hIt _ W hI
        have mcell := hit.2.2.2.1 x.1 x.2
        have hIB := chain _ _ hI
        have hTB := hIB.turn
        have hTK := hI.turn
        have hmx : Try.prog.follows .mixedOrders = true := by kernel_rfl
        have hd1 : 1 ≤ 10 - 1 - 1 := by omega
        have q0 := hTB.cell k0 (by dsimp only; omega)
        have q1 := hTB.cell k1 (by dsimp only; omega)
        have q2 := hTB.cell k2 (by dsimp only; omega)
        have q3 := hTB.cell k3 (by dsimp only; omega)
        have q4 := hTB.cell k4 (by dsimp only; omega)
        have q5 := hTB.cell k5 (by dsimp only; omega)
        have q12 := hTK.cell k12 (by dsimp only; omega)
        have qid : W.cell? ⟨X.G, k * 5, none⟩ = some (.int .u32 (D.gid k)) := gcell _ _ hIB gi1
        have qtg : W.cell? ⟨X.G, k * 5 + 3, none⟩ = some (D.tg k) := gcell _ _ hIB gi3
        have qtv : W.cell? ⟨X.S, 5, none⟩ = some (.slice tva 0 tvc) := by
          obtain ⟨_, _, eS, _⟩ := hIB
          rw [cell_of_row _ _ _ _ _ _ eS, ← htv]; rfl
        have TT : W.heap[T]? = some (.cells tt 137) := by
          refine hTB.at ((hb.block _ (heap_lt hT)).trans hT) ?_
          obtain ⟨cs, hr⟩ := hR
          obtain ⟨_, _, eS, _, eC, eO, _⟩ := hsat
          rintro (e | e | e | e)
          · exact neT hT eS (by decide) e
          · exact neT hT eC (by decide) e
          · exact neT hT eO (by decide) e
          · exact neT hT hr (by decide) e
        have A1 : Hid (∀ A : World, Calls Try.prog 58 #[.slice tva 0 tvc, .string typ, .pointer (some ⟨D.Cb k, x.1 * 5, none⟩), .nilFunc] A fun e w' => e = .returned (.int .u8 0) ∧ A = w') := fun A => armed58_nil tva tvc typ _ A
        have A2 : Hid (∀ A : World, A.heap = W.heap → Calls Try.prog 58 #[D.tg k, .string typ, .pointer (some ⟨D.Cb k, x.1 * 5, none⟩), .nilFunc] A fun e w' => e = .returned (.int .u8 (if k = i ∧ msOf (D.Ls k) x.1 = 0 then 2 else 0)) ∧ A = w') := by
          intro A hA
          by_cases hki : k = i
          · have hm1 : msOf (D.Ls k) x.1 = 0 ∨ msOf (D.Ls k) x.1 = 1 := by
              have hx := x.2
              rw [msOf_some (List.getElem?_eq_getElem hx)]
              exact hm _ (by rw [hL, ← hki]; exact List.getElem_mem hx)
            have e3 : (if k = i ∧ msOf (D.Ls k) x.1 = 0 then (2 : Int) else 0) = if msOf (D.Ls k) x.1 = 0 then 2 else 0 := by simp [hki]
            have hTA : A.heap[T]? = some (.cells tt 137) := by rw [hA]; exact TT
            have htk : D.tg k = .slice (some ⟨T, 0, none⟩) 1 1 := by rw [hki]; exact hti
            rw [e3, htk]
            refine armed58_one T (D.Cb k) (x.1 * 5) typ (msOf (D.Ls k) x.1) hm1 A (by rw [cell_of_row _ _ _ _ _ _ hTA]; exact hT0) (by rw [cell_of_row _ _ _ _ _ _ hTA]; exact hT6) (by rw [cell_of_row _ _ _ _ _ _ hTA]; exact hT7) ?_
            unfold World.cell? at mcell ⊢
            rw [hA]; exact mcell
          · obtain ⟨ta, tc, e1⟩ := ht k hlt hki
            rw [e1, if_neg (fun h => hki h.1)]
            exact armed58_nil ta tc typ _ A
        by_cases hcl : k = i ∧ msOf (D.Ls k) x.1 = 0
        · have A3 : Hid (∀ A : World, A.heap = W.heap → Calls Try.prog 58 #[D.tg k, .string typ, .pointer (some ⟨D.Cb k, x.1 * 5, none⟩), .nilFunc] A fun e w' => e = .returned (.int .u8 2) ∧ A = w') := by
            have := Hid.out A2
            simp only [if_pos hcl] at this
            exact this
          have HC : Hid _ := hcl
          have hmax : max (0 : Int) 2 = 2 := by decide
          clear A2 hcl
          gi_wp2_with fail
          have hh : W.drew.heap = W.heap := rfl
          have sD := Sat.drew hI
          have kD := KeepsOthers.drew W
          refine wpIn_region_noPanic ?_
          refine wpIn_region_last 8 (fun W' => W' = W.drew) hmx rfl (fun hHeld => ?_)
          replace q0 : W.drew.cell? _ = _ := q0
          replace q1 : W.drew.cell? _ = _ := q1
          replace q2 : W.drew.cell? _ = _ := q2
          replace q3 : W.drew.cell? _ = _ := q3
          replace q4 : W.drew.cell? _ = _ := q4
          replace q5 : W.drew.cell? _ = _ := q5
          replace q12 : W.drew.cell? _ = _ := q12
          replace qid : W.drew.cell? _ = _ := qid
          replace qtg : W.drew.cell? _ = _ := qtg
          replace qtv : W.drew.cell? _ = _ := qtv
          generalize W.drew = Wd at *
          refine wpAnyLIn_take (i := 0) (oi := _) (v := ?_) rfl (by kernel_rfl) (by kernel_rfl) (fun _ _ _ h => h) ⟨Or.inl ⟨by rfl, ?_⟩, fun _ => rfl⟩ hHeld ?_
          rotate_left
          · (intro w' hSw; subst hSw; go_simp; first | done | with_reducible rfl)
          try simp only [List.getElem_toArray, List.getElem_cons_succ, List.getElem_cons_zero, Act.put, List.setIfInBounds_toArray, List.set_cons_zero, List.set_cons_succ]
          refine wpAnyLIn_take (i := 1) (oi := _) (v := ?_) rfl (by kernel_rfl) (by kernel_rfl) (fun _ _ _ h => h) ⟨Or.inl ⟨by rfl, ?_⟩, fun _ => rfl⟩ hHeld ?_
          rotate_left
          · (intro w' hSw; subst hSw; go_simp; first | done | with_reducible rfl)
          try simp only [List.getElem_toArray, List.getElem_cons_succ, List.getElem_cons_zero, Act.put, List.setIfInBounds_toArray, List.set_cons_zero, List.set_cons_succ]
          refine wpAnyLIn_take (i := 2) (oi := _) (v := ?_) rfl (by kernel_rfl) (by kernel_rfl) (fun _ _ _ h => h) ⟨Or.inl ⟨by rfl, ?_⟩, fun _ => rfl⟩ hHeld ?_
          rotate_left
          · (intro w' hSw; subst hSw; go_simp; first | done | with_reducible rfl)
          try simp only [List.getElem_toArray, List.getElem_cons_succ, List.getElem_cons_zero, Act.put, List.setIfInBounds_toArray, List.set_cons_zero, List.set_cons_succ]
          refine wpAnyLIn_take (i := 3) (oi := _) (v := ?_) rfl (by kernel_rfl) (by kernel_rfl) (fun _ _ _ h => h) ⟨Or.inl ⟨by rfl, ?_⟩, fun _ => rfl⟩ hHeld ?_
          rotate_left
          · (intro w' hSw; subst hSw; go_simp; first | done | with_reducible rfl)
          try simp only [List.getElem_toArray, List.getElem_cons_succ, List.getElem_cons_zero, Act.put, List.setIfInBounds_toArray, List.set_cons_zero, List.set_cons_succ]
          refine wpAnyLIn_take (i := 4) (oi := _) (v := ?_) rfl (by kernel_rfl) (by kernel_rfl) (fun _ _ _ h => h) ⟨Or.inl ⟨by rfl, ?_⟩, fun _ => rfl⟩ hHeld ?_
          rotate_left
          · (intro w' hSw; subst hSw; go_simp; first | done | with_reducible rfl)
          try simp only [List.getElem_toArray, List.getElem_cons_succ, List.getElem_cons_zero, Act.put, List.setIfInBounds_toArray, List.set_cons_zero, List.set_cons_succ]
          refine wpAnyLIn_take (i := 5) (oi := _) (v := ?_) rfl (by kernel_rfl) (by kernel_rfl) (fun _ _ _ h => h) ⟨Or.inl ⟨by rfl, ?_⟩, fun _ => rfl⟩ hHeld ?_
          rotate_left
          · (intro w' hSw; subst hSw; go_simp; first | done | with_reducible rfl)
          try simp only [List.getElem_toArray, List.getElem_cons_succ, List.getElem_cons_zero, Act.put, List.setIfInBounds_toArray, List.set_cons_zero, List.set_cons_succ]
          refine wpAnyLIn_take (i := 6) (oi := _) (v := ?_) rfl (by kernel_rfl) (by kernel_rfl) (fun _ _ _ h => h) ⟨Or.inl ⟨by rfl, ?_⟩, fun _ => rfl⟩ hHeld ?_
          rotate_left
          · (intro w' hSw; subst hSw; go_simp; first | done | with_reducible rfl)
          try simp only [List.getElem_toArray, List.getElem_cons_succ, List.getElem_cons_zero, Act.put, List.setIfInBounds_toArray, List.set_cons_zero, List.set_cons_succ]
          refine wpAnyLIn_one (i := 7) (o := _) rfl (by kernel_rfl) (fun K hK1 => ?_)
          go_simp
          refine ⟨trivial, ?_⟩
          refine (CallsIn.inRound l (callsIn_wide.2 (Hid.out A1 Wd))).mono ?_
          rintro e w2 ⟨rfl, rfl⟩
          refine hK1.out _ _ hHeld (fun hHeld => ?_)
          clear hK1 K
          try simp only [List.getElem_toArray, List.getElem_cons_succ, List.getElem_cons_zero, Act.put, List.setIfInBounds_toArray, List.set_cons_zero, List.set_cons_succ]
          refine wpAnyLIn_last rfl (by kernel_rfl) ?_
          intro K' hK'
          go_simp
          refine hK'.out _ _ (NoPanic.normal ?_)
          clear hK' K' hHeld
          gi_wp2_with fail
          have hh2 : Wd.drew.heap = W.heap := hh
          have sD2 := Sat.drew sD
          have kD2 := kD.trans (KeepsOthers.drew Wd)
          refine wpIn_region_noPanic ?_
          refine wpIn_region_last 10 (fun W' => W' = Wd.drew) hmx rfl (fun hHeld => ?_)
          replace q0 : Wd.drew.cell? _ = _ := q0
          replace q1 : Wd.drew.cell? _ = _ := q1
          replace q2 : Wd.drew.cell? _ = _ := q2
          replace q3 : Wd.drew.cell? _ = _ := q3
          replace q4 : Wd.drew.cell? _ = _ := q4
          replace q5 : Wd.drew.cell? _ = _ := q5
          replace q12 : Wd.drew.cell? _ = _ := q12
          replace qid : Wd.drew.cell? _ = _ := qid
          replace qtg : Wd.drew.cell? _ = _ := qtg
          generalize Wd.drew = We at *
          refine wpAnyLIn_take (i := 0) (oi := _) (v := ?_) rfl (by kernel_rfl) (by kernel_rfl) (fun _ _ _ h => h) ⟨Or.inl ⟨by rfl, ?_⟩, fun _ => rfl⟩ hHeld ?_
          rotate_left
          · (intro w' hSw; subst hSw; go_simp; first | done | with_reducible rfl)
          try simp only [List.getElem_toArray, List.getElem_cons_succ, List.getElem_cons_zero, Act.put, List.setIfInBounds_toArray, List.set_cons_zero, List.set_cons_succ]
          refine wpAnyLIn_take (i := 1) (oi := _) (v := ?_) rfl (by kernel_rfl) (by kernel_rfl) (fun _ _ _ h => h) ⟨Or.inl ⟨by rfl, ?_⟩, fun _ => rfl⟩ hHeld ?_
          rotate_left
          · (intro w' hSw; subst hSw; go_simp; first | done | with_reducible rfl)
          try simp only [List.getElem_toArray, List.getElem_cons_succ, List.getElem_cons_zero, Act.put, List.setIfInBounds_toArray, List.set_cons_zero, List.set_cons_succ]
          refine wpAnyLIn_take (i := 2) (oi := _) (v := ?_) rfl (by kernel_rfl) (by kernel_rfl) (fun _ _ _ h => h) ⟨Or.inl ⟨by rfl, ?_⟩, fun _ => rfl⟩ hHeld ?_
          rotate_left
          · (intro w' hSw; subst hSw; go_simp; first | done | with_reducible rfl)
          try simp only [List.getElem_toArray, List.getElem_cons_succ, List.getElem_cons_zero, Act.put, List.setIfInBounds_toArray, List.set_cons_zero, List.set_cons_succ]
          refine wpAnyLIn_take (i := 3) (oi := _) (v := ?_) rfl (by kernel_rfl) (by kernel_rfl) (fun _ _ _ h => h) ⟨Or.inl ⟨by rfl, ?_⟩, fun _ => rfl⟩ hHeld ?_
          rotate_left
          · (intro w' hSw; subst hSw; go_simp; first | done | with_reducible rfl)
          try simp only [List.getElem_toArray, List.getElem_cons_succ, List.getElem_cons_zero, Act.put, List.setIfInBounds_toArray, List.set_cons_zero, List.set_cons_succ]
          refine wpAnyLIn_take (i := 4) (oi := _) (v := ?_) rfl (by kernel_rfl) (by kernel_rfl) (fun _ _ _ h => h) ⟨Or.inl ⟨by rfl, ?_⟩, fun _ => rfl⟩ hHeld ?_
          rotate_left
          · (intro w' hSw; subst hSw; go_simp; first | done | with_reducible rfl)
          try simp only [List.getElem_toArray, List.getElem_cons_succ, List.getElem_cons_zero, Act.put, List.setIfInBounds_toArray, List.set_cons_zero, List.set_cons_succ]
          refine wpAnyLIn_take (i := 5) (oi := _) (v := ?_) rfl (by kernel_rfl) (by kernel_rfl) (fun _ _ _ h => h) ⟨Or.inl ⟨by rfl, ?_⟩, fun _ => rfl⟩ hHeld ?_
          rotate_left
          · (intro w' hSw; subst hSw; go_simp; first | done | with_reducible rfl)
          try simp only [List.getElem_toArray, List.getElem_cons_succ, List.getElem_cons_zero, Act.put, List.setIfInBounds_toArray, List.set_cons_zero, List.set_cons_succ]
          refine wpAnyLIn_take (i := 6) (oi := _) (v := ?_) rfl (by kernel_rfl) (by kernel_rfl) (fun _ _ _ h => h) ⟨Or.inl ⟨by rfl, ?_⟩, fun _ => rfl⟩ hHeld ?_
          rotate_left
          · (intro w' hSw; subst hSw; go_simp; first | done | with_reducible rfl)
          try simp only [List.getElem_toArray, List.getElem_cons_succ, List.getElem_cons_zero, Act.put, List.setIfInBounds_toArray, List.set_cons_zero, List.set_cons_succ]
          refine wpAnyLIn_take (i := 7) (oi := _) (v := ?_) rfl (by kernel_rfl) (by kernel_rfl) (fun _ _ _ h => h) ⟨Or.inl ⟨by rfl, ?_⟩, fun _ => rfl⟩ hHeld ?_
          rotate_left
          · (intro w' hSw; subst hSw; go_simp; first | done | with_reducible rfl)
          try simp only [List.getElem_toArray, List.getElem_cons_succ, List.getElem_cons_zero, Act.put, List.setIfInBounds_toArray, List.set_cons_zero, List.set_cons_succ]
          refine wpAnyLIn_one (i := 8) (o := _) rfl (by kernel_rfl) (fun K hK1 => ?_)
          go_simp
          refine ⟨trivial, ?_⟩
          refine (CallsIn.inRound l (callsIn_wide.2 (Hid.out A3 We hh2))).mono ?_
          rintro e w2 ⟨rfl, rfl⟩
          refine hK1.out _ _ hHeld (fun hHeld => ?_)
          clear hK1 K
          try simp only [List.getElem_toArray, List.getElem_cons_succ, List.getElem_cons_zero, Act.put, List.setIfInBounds_toArray, List.set_cons_zero, List.set_cons_succ]
          refine wpAnyLIn_one (i := 9) (o := _) rfl (by kernel_rfl) (fun K hK1 => ?_)
          go_simp
          refine hK1.out _ _ hHeld (fun hHeld => ?_)
          clear hK1 K
          try simp only [List.getElem_toArray, List.getElem_cons_succ, List.getElem_cons_zero, Act.put, List.setIfInBounds_toArray, List.set_cons_zero, List.set_cons_succ]
          refine wpAnyLIn_last rfl (by kernel_rfl) ?_
          intro K' hK'
          go_simp
          refine hK'.out _ _ (NoPanic.normal ?_)
          clear hK' K' hHeld
          have sC : Sat { X with R := R' } wk (stps (D.gid i) d typ st (pre.map Subtype.val)) We := by
            rw [if_pos (Hid.out HC).1] at sD2; exact sD2
          have hnn := stps_n (D.gid i) d typ (pre.map Subtype.val) st
          rw [List.length_map] at hnn
          have hmap := stps_map (D.gid i) d typ (pre.map Subtype.val) st
          have hfin := stps_snoc (D.gid i) d typ st (pre.map Subtype.val) x.1
          generalize hcur : stps (D.gid i) d typ st (pre.map Subtype.val) = cur at sC hnn hmap hfin
          have hlk : (D.Ls k).length ≤ 1048576 := hG.len hlt
          have hxl : x.1 < cur.L.length := by
            have := congrArg List.length hmap
            simp only [List.length_map] at this
            have h2 := x.2
            have h3 := (Hid.out HC).1
            rw [this, hL, ← h3]; exact h2
          obtain ⟨c, hc⟩ : ∃ c, cur.L[x.1]? = some c := ⟨_, List.getElem?_eq_getElem hxl⟩
          have hcm : c.m = 0 := by
            rw [← msOf_some hc, msOf_congr hmap, hL, ← (Hid.out HC).1]
            exact (Hid.out HC).2
          have hfinal : ({ stC (D.gid i) d typ 2 cur x.1 c with im := true } : St) = (if k = i then stps (D.gid i) d typ st ((pre ++ [x]).map Subtype.val) else sk) := by
            rw [if_pos (Hid.out HC).1, List.map_append, List.map_cons, List.map_nil, hfin]
            simp only [stp, hc, hcm, if_true]
          replace qid : We.cell? ⟨X.G, k * 5, none⟩ = some (.int .u32 (D.gid i)) := by rw [← (Hid.out HC).1]; exact qid
          have hCk : X.C = D.Cb k := by rw [hC, (Hid.out HC).1]
          have CL := (Sat.drew sC).close fK x.1 c hc (by omega) (D.gid i) d 2 typ hd
          dsimp only at CL
          rw [hCk] at CL
          have HCL : Hid _ := CL
          have HCK : Hid _ := hCk
          have HF : Hid _ := hfinal
          have kD3 := kD2.trans (KeepsOthers.drew We)
          clear CL hCk hfinal hcm hfin hmap hcur
          gi_wp2_with fail
          refine wpIn_region_noPanic ?_
          refine wpIn_region_last 9 (fun W' => W' = We.drew) hmx rfl (fun hHeld => ?_)
          replace q0 : We.drew.cell? _ = _ := q0
          replace q1 : We.drew.cell? _ = _ := q1
          replace q2 : We.drew.cell? _ = _ := q2
          replace q3 : We.drew.cell? _ = _ := q3
          replace q4 : We.drew.cell? _ = _ := q4
          replace q12 : We.drew.cell? _ = _ := q12
          replace qid : We.drew.cell? _ = _ := qid
          generalize We.drew = Wf at *
          refine wpAnyLIn_take (i := 0) (oi := _) (v := ?_) rfl (by kernel_rfl) (by kernel_rfl) (fun _ _ _ h => h) ⟨Or.inl ⟨by rfl, ?_⟩, fun _ => rfl⟩ hHeld ?_
          rotate_left
          · (intro w' hSw; subst hSw; go_simp; first | done | with_reducible rfl)
          try simp only [List.getElem_toArray, List.getElem_cons_succ, List.getElem_cons_zero, Act.put, List.setIfInBounds_toArray, List.set_cons_zero, List.set_cons_succ]
          refine wpAnyLIn_take (i := 1) (oi := _) (v := ?_) rfl (by kernel_rfl) (by kernel_rfl) (fun _ _ _ h => h) ⟨Or.inl ⟨by rfl, ?_⟩, fun _ => rfl⟩ hHeld ?_
          rotate_left
          · (intro w' hSw; subst hSw; go_simp; first | done | with_reducible rfl)
          try simp only [List.getElem_toArray, List.getElem_cons_succ, List.getElem_cons_zero, Act.put, List.setIfInBounds_toArray, List.set_cons_zero, List.set_cons_succ]
          refine wpAnyLIn_take (i := 2) (oi := _) (v := ?_) rfl (by kernel_rfl) (by kernel_rfl) (fun _ _ _ h => h) ⟨Or.inl ⟨by rfl, ?_⟩, fun _ => rfl⟩ hHeld ?_
          rotate_left
          · (intro w' hSw; subst hSw; go_simp; first | done | with_reducible rfl)
          try simp only [List.getElem_toArray, List.getElem_cons_succ, List.getElem_cons_zero, Act.put, List.setIfInBounds_toArray, List.set_cons_zero, List.set_cons_succ]
          refine wpAnyLIn_take (i := 3) (oi := _) (v := ?_) rfl (by kernel_rfl) (by kernel_rfl) (fun _ _ _ h => h) ⟨Or.inl ⟨by rfl, ?_⟩, fun _ => rfl⟩ hHeld ?_
          rotate_left
          · (intro w' hSw; subst hSw; go_simp; first | done | with_reducible rfl)
          try simp only [List.getElem_toArray, List.getElem_cons_succ, List.getElem_cons_zero, Act.put, List.setIfInBounds_toArray, List.set_cons_zero, List.set_cons_succ]
          refine wpAnyLIn_take (i := 4) (oi := _) (v := ?_) rfl (by kernel_rfl) (by kernel_rfl) (fun _ _ _ h => h) ⟨Or.inl ⟨by rfl, ?_⟩, fun _ => rfl⟩ hHeld ?_
          rotate_left
          · (intro w' hSw; subst hSw; go_simp; first | done | with_reducible rfl)
          try simp only [List.getElem_toArray, List.getElem_cons_succ, List.getElem_cons_zero, Act.put, List.setIfInBounds_toArray, List.set_cons_zero, List.set_cons_succ]
          refine wpAnyLIn_take (i := 5) (oi := _) (v := ?_) rfl (by kernel_rfl) (by kernel_rfl) (fun _ _ _ h => h) ⟨Or.inl ⟨by rfl, ?_⟩, fun _ => rfl⟩ hHeld ?_
          rotate_left
          · (intro w' hSw; subst hSw; go_simp; first | done | with_reducible rfl)
          try simp only [List.getElem_toArray, List.getElem_cons_succ, List.getElem_cons_zero, Act.put, List.setIfInBounds_toArray, List.set_cons_zero, List.set_cons_succ]
          refine wpAnyLIn_take (i := 6) (oi := _) (v := ?_) rfl (by kernel_rfl) (by kernel_rfl) (fun _ _ _ h => h) ⟨Or.inl ⟨by rfl, ?_⟩, fun _ => rfl⟩ hHeld ?_
          rotate_left
          · (intro w' hSw; subst hSw; go_simp; first | done | with_reducible rfl)
          try simp only [List.getElem_toArray, List.getElem_cons_succ, List.getElem_cons_zero, Act.put, List.setIfInBounds_toArray, List.set_cons_zero, List.set_cons_succ]
          refine wpAnyLIn_take (i := 7) (oi := _) (v := ?_) rfl (by kernel_rfl) (by kernel_rfl) (fun _ _ _ h => h) ⟨Or.inl ⟨by rfl, ?_⟩, fun _ => rfl⟩ hHeld ?_
          rotate_left
          · (intro w' hSw; subst hSw; go_simp; first | done | with_reducible rfl)
          try simp only [List.getElem_toArray, List.getElem_cons_succ, List.getElem_cons_zero, Act.put, List.setIfInBounds_toArray, List.set_cons_zero, List.set_cons_succ]
          refine wpAnyLIn_take (i := 8) (oi := _) (v := ?_) rfl (by kernel_rfl) (by kernel_rfl) (fun _ _ _ h => h) ⟨Or.inl ⟨by rfl, ?_⟩, fun _ => rfl⟩ hHeld ?_
          rotate_left
          · (intro w' hSw; subst hSw; go_simp; first | done | with_reducible rfl)
          try simp only [List.getElem_toArray, List.getElem_cons_succ, List.getElem_cons_zero, Act.put, List.setIfInBounds_toArray, List.set_cons_zero, List.set_cons_succ]
          refine wpAnyLIn_last rfl (by kernel_rfl) ?_
          intro K' hK'
          go_simp
          refine ⟨trivial, ?_⟩
          refine (CallsIn.inRound l (callsIn_wide.2 (Hid.out HCL))).mono ?_
          rintro e W1 ⟨rfl, s1, kp1⟩
          rw [← Hid.out HCK] at s1
          refine hK'.out _ _ (NoPanic.normal ?_)
          clear hK' K' hHeld q0 q1 q2 q3 q4 q5 q12 qid qtg HCL
          have hfinal := Hid.out HF
          have hO1 : W1.heap[X.O]? = some (.cells #[.bool cur.im, X.tr, X.ak] 140) := by
            obtain ⟨_, _, _, _, _, hO, _⟩ := s1
            exact hO
          have kp1' := kD3.trans kp1
          have p4 : W1.drew.cell? ⟨w.heap.size + 1 + 1 + 1 + 1, 0, none⟩ = some (.pointer (some ⟨X.O, 0, none⟩)) := (chain _ _ s1).turn.cell k6 (by dsimp only; omega)
          have hcl1 := True.intro
          clear hfinal
          cases him : cur.im with
          | true =>
            rw [him] at hO1
            have hfinal := Hid.out HF
            have o1 : W1.drew.cell? ⟨X.O, 0, none⟩ = some (.bool true) := by
              have : W1.cell? ⟨X.O, 0, none⟩ = some (.bool true) := by rw [cell_of_row _ _ _ _ _ _ hO1]; rfl
              exact this
            have o2 : W1.drew.frozen? ⟨X.O, 0, none⟩ = false := by
              have : W1.frozen? ⟨X.O, 0, none⟩ = false := frozen_of_row _ _ _ _ _ hO1
              exact this
            gi_wp2_with fail
            refine wpIn_region_noPanic ?_
            refine wpIn_region_last 11 (fun W' => W' = W1.drew) hmx rfl (fun hHeld => ?_)
            have s2 := (Sat.drew s1).imm true
            have kp2 := (kp1'.trans (KeepsOthers.drew W1)).trans (KeepsOthers.setCell W1.drew ⟨X.O, 0, none⟩ (.bool true))
            dsimp only at s2
            have HS2 : Hid _ := s2
            have HK2 : Hid _ := kp2
            clear s1 s2 kp1 kp1' kp2 hO1 hcl1
            generalize W1.drew = W2 at *
            refine wpAnyLIn_take (i := 0) (oi := _) (v := ?_) rfl (by kernel_rfl) (by kernel_rfl) (fun _ _ _ h => h) ⟨Or.inl ⟨by rfl, ?_⟩, fun _ => rfl⟩ hHeld ?_
            rotate_left
            · (intro w' hSw; subst hSw; go_simp; first | done | with_reducible rfl)
            try simp only [List.getElem_toArray, List.getElem_cons_succ, List.getElem_cons_zero, Act.put, List.setIfInBounds_toArray, List.set_cons_zero, List.set_cons_succ]
            refine wpAnyLIn_take (i := 1) (oi := _) (v := ?_) rfl (by kernel_rfl) (by kernel_rfl) (fun _ _ _ h => h) ⟨Or.inl ⟨by rfl, ?_⟩, fun _ => rfl⟩ hHeld ?_
            rotate_left
            · (intro w' hSw; subst hSw; go_simp; first | done | with_reducible rfl)
            try simp only [List.getElem_toArray, List.getElem_cons_succ, List.getElem_cons_zero, Act.put, List.setIfInBounds_toArray, List.set_cons_zero, List.set_cons_succ]
            refine wpAnyLIn_take (i := 2) (oi := _) (v := ?_) rfl (by kernel_rfl) (by kernel_rfl) (fun _ _ _ h => h) ⟨Or.inl ⟨by rfl, ?_⟩, fun _ => rfl⟩ hHeld ?_
            rotate_left
            · (intro w' hSw; subst hSw; go_simp; first | done | with_reducible rfl)
            try simp only [List.getElem_toArray, List.getElem_cons_succ, List.getElem_cons_zero, Act.put, List.setIfInBounds_toArray, List.set_cons_zero, List.set_cons_succ]
            refine wpAnyLIn_take (i := 3) (oi := _) (v := ?_) rfl (by kernel_rfl) (by kernel_rfl) (fun _ _ _ h => h) ⟨Or.inl ⟨by rfl, ?_⟩, fun _ => rfl⟩ hHeld ?_
            rotate_left
            · (intro w' hSw; subst hSw; go_simp; first | done | with_reducible rfl)
            try simp only [List.getElem_toArray, List.getElem_cons_succ, List.getElem_cons_zero, Act.put, List.setIfInBounds_toArray, List.set_cons_zero, List.set_cons_succ]
            refine wpAnyLIn_take (i := 4) (oi := _) (v := ?_) rfl (by kernel_rfl) (by kernel_rfl) (fun _ _ _ h => h) ⟨Or.inl ⟨by rfl, ?_⟩, fun _ => rfl⟩ hHeld ?_
            rotate_left
            · (intro w' hSw; subst hSw; go_simp; first | done | with_reducible rfl)
            try simp only [List.getElem_toArray, List.getElem_cons_succ, List.getElem_cons_zero, Act.put, List.setIfInBounds_toArray, List.set_cons_zero, List.set_cons_succ]
            refine wpAnyLIn_take (i := 5) (oi := _) (v := ?_) rfl (by kernel_rfl) (by kernel_rfl) (fun _ _ _ h => h) ⟨Or.inl ⟨by rfl, ?_⟩, fun _ => rfl⟩ hHeld ?_
            rotate_left
            · (intro w' hSw; subst hSw; go_simp; first | done | with_reducible rfl)
            try simp only [List.getElem_toArray, List.getElem_cons_succ, List.getElem_cons_zero, Act.put, List.setIfInBounds_toArray, List.set_cons_zero, List.set_cons_succ]
            refine wpAnyLIn_take (i := 6) (oi := _) (v := undef) rfl (by kernel_rfl) (by kernel_rfl) (fun _ _ _ h => h) ⟨Or.inr ⟨by rfl, rfl⟩, fun _ => rfl⟩ hHeld ?_
            try simp only [List.getElem_toArray, List.getElem_cons_succ, List.getElem_cons_zero, Act.put, List.setIfInBounds_toArray, List.set_cons_zero, List.set_cons_succ]
            refine wpAnyLIn_take (i := 7) (oi := _) (v := undef) rfl (by kernel_rfl) (by kernel_rfl) (fun _ _ _ h => h) ⟨Or.inr ⟨by rfl, rfl⟩, fun _ => rfl⟩ hHeld ?_
            try simp only [List.getElem_toArray, List.getElem_cons_succ, List.getElem_cons_zero, Act.put, List.setIfInBounds_toArray, List.set_cons_zero, List.set_cons_succ]
            refine wpAnyLIn_take (i := 8) (oi := _) (v := ?_) rfl (by kernel_rfl) (by kernel_rfl) (fun _ _ _ h => h) ⟨Or.inl ⟨by rfl, ?_⟩, fun _ => rfl⟩ hHeld ?_
            rotate_left
            · (intro w' hSw; subst hSw; go_simp; first | done | with_reducible rfl)
            try simp only [List.getElem_toArray, List.getElem_cons_succ, List.getElem_cons_zero, Act.put, List.setIfInBounds_toArray, List.set_cons_zero, List.set_cons_succ]
            refine wpAnyLIn_one (i := 9) (o := _) rfl (by kernel_rfl) (fun K hK1 => ?_)
            go_simp
            refine hK1.out _ _ hHeld (fun hHeld => ?_)
            clear hK1 K
            try simp only [List.getElem_toArray, List.getElem_cons_succ, List.getElem_cons_zero, Act.put, List.setIfInBounds_toArray, List.set_cons_zero, List.set_cons_succ]
            refine wpAnyLIn_take (i := 10) (oi := _) (v := ?_) rfl (by kernel_rfl) (by kernel_rfl) (fun _ _ _ h => h) ⟨Or.inl ⟨by rfl, ?_⟩, fun _ => rfl⟩ hHeld ?_
            rotate_left
            · (intro w' hSw; subst hSw; go_simp; first | done | with_reducible rfl)
            try simp only [List.getElem_toArray, List.getElem_cons_succ, List.getElem_cons_zero, Act.put, List.setIfInBounds_toArray, List.set_cons_zero, List.set_cons_succ]
            refine wpAnyLIn_last rfl (by kernel_rfl) ?_
            intro K' hK'
            go_simp
            refine hK'.out _ _ (NoPanic.normal ?_)
            clear hK' K' hHeld o1 o2 p4
            generalize (W2.setCell ⟨X.O, 0, none⟩ (.bool true)) = W3 at *
            have b10 : W3.heap[w.heap.size + 1 + 1 + 1 + 1 + 1]? = some (.cells #[.bool false] 4) := (chain _ _ (Hid.out HS2)).turn.at k7 (by omega)
            have b10c : W3.cell? ⟨w.heap.size + 1 + 1 + 1 + 1 + 1, 0, none⟩ = some (.bool false) := by rw [cell_of_row _ _ _ _ _ _ b10]; rfl
            have b10f : W3.frozen? ⟨w.heap.size + 1 + 1 + 1 + 1 + 1, 0, none⟩ = false := frozen_of_row _ _ _ _ _ b10
            have b10i := setCell_id W3 _ _ _ b10
            gi_wp2
            have hnew : Sat { X with R := R' } wk (if k = i then stps (D.gid i) d typ st ((pre ++ [x]).map Subtype.val) else sk) W3 := by rw [← hfinal]; exact Hid.out HS2
            exact ⟨(Hid.out HK2).from _, fun _ => hIt _ W3 hnew, (Hid.out HI0 _ _).2 ⟨hnew, hMW.keep (Hid.out HK2)⟩⟩
          | false =>
            rw [him] at hO1
            have hfinal := Hid.out HF
            have o1 : W1.drew.cell? ⟨X.O, 0, none⟩ = some (.bool false) := by
              have : W1.cell? ⟨X.O, 0, none⟩ = some (.bool false) := by rw [cell_of_row _ _ _ _ _ _ hO1]; rfl
              exact this
            have o2 : W1.drew.frozen? ⟨X.O, 0, none⟩ = false := by
              have : W1.frozen? ⟨X.O, 0, none⟩ = false := frozen_of_row _ _ _ _ _ hO1
              exact this
            gi_wp2_with fail
            refine wpIn_region_noPanic ?_
            refine wpIn_region_last 11 (fun W' => W' = W1.drew) hmx rfl (fun hHeld => ?_)
            have s2 := (Sat.drew s1).imm true
            have kp2 := (kp1'.trans (KeepsOthers.drew W1)).trans (KeepsOthers.setCell W1.drew ⟨X.O, 0, none⟩ (.bool true))
            dsimp only at s2
            have HS2 : Hid _ := s2
            have HK2 : Hid _ := kp2
            clear s1 s2 kp1 kp1' kp2 hO1 hcl1
            generalize W1.drew = W2 at *
            refine wpAnyLIn_take (i := 0) (oi := _) (v := ?_) rfl (by kernel_rfl) (by kernel_rfl) (fun _ _ _ h => h) ⟨Or.inl ⟨by rfl, ?_⟩, fun _ => rfl⟩ hHeld ?_
            rotate_left
            · (intro w' hSw; subst hSw; go_simp; first | done | with_reducible rfl)
            try simp only [List.getElem_toArray, List.getElem_cons_succ, List.getElem_cons_zero, Act.put, List.setIfInBounds_toArray, List.set_cons_zero, List.set_cons_succ]
            refine wpAnyLIn_take (i := 1) (oi := _) (v := ?_) rfl (by kernel_rfl) (by kernel_rfl) (fun _ _ _ h => h) ⟨Or.inl ⟨by rfl, ?_⟩, fun _ => rfl⟩ hHeld ?_
            rotate_left
            · (intro w' hSw; subst hSw; go_simp; first | done | with_reducible rfl)
            try simp only [List.getElem_toArray, List.getElem_cons_succ, List.getElem_cons_zero, Act.put, List.setIfInBounds_toArray, List.set_cons_zero, List.set_cons_succ]
            refine wpAnyLIn_take (i := 2) (oi := _) (v := ?_) rfl (by kernel_rfl) (by kernel_rfl) (fun _ _ _ h => h) ⟨Or.inl ⟨by rfl, ?_⟩, fun _ => rfl⟩ hHeld ?_
            rotate_left
            · (intro w' hSw; subst hSw; go_simp; first | done | with_reducible rfl)
            try simp only [List.getElem_toArray, List.getElem_cons_succ, List.getElem_cons_zero, Act.put, List.setIfInBounds_toArray, List.set_cons_zero, List.set_cons_succ]
            refine wpAnyLIn_take (i := 3) (oi := _) (v := ?_) rfl (by kernel_rfl) (by kernel_rfl) (fun _ _ _ h => h) ⟨Or.inl ⟨by rfl, ?_⟩, fun _ => rfl⟩ hHeld ?_
            rotate_left
            · (intro w' hSw; subst hSw; go_simp; first | done | with_reducible rfl)
            try simp only [List.getElem_toArray, List.getElem_cons_succ, List.getElem_cons_zero, Act.put, List.setIfInBounds_toArray, List.set_cons_zero, List.set_cons_succ]
            refine wpAnyLIn_take (i := 4) (oi := _) (v := ?_) rfl (by kernel_rfl) (by kernel_rfl) (fun _ _ _ h => h) ⟨Or.inl ⟨by rfl, ?_⟩, fun _ => rfl⟩ hHeld ?_
            rotate_left
            · (intro w' hSw; subst hSw; go_simp; first | done | with_reducible rfl)
            try simp only [List.getElem_toArray, List.getElem_cons_succ, List.getElem_cons_zero, Act.put, List.setIfInBounds_toArray, List.set_cons_zero, List.set_cons_succ]
            refine wpAnyLIn_take (i := 5) (oi := _) (v := ?_) rfl (by kernel_rfl) (by kernel_rfl) (fun _ _ _ h => h) ⟨Or.inl ⟨by rfl, ?_⟩, fun _ => rfl⟩ hHeld ?_
            rotate_left
            · (intro w' hSw; subst hSw; go_simp; first | done | with_reducible rfl)
            try simp only [List.getElem_toArray, List.getElem_cons_succ, List.getElem_cons_zero, Act.put, List.setIfInBounds_toArray, List.set_cons_zero, List.set_cons_succ]
            refine wpAnyLIn_take (i := 6) (oi := _) (v := ?_) rfl (by kernel_rfl) (by kernel_rfl) (fun _ _ _ h => h) ⟨Or.inl ⟨by rfl, ?_⟩, fun _ => rfl⟩ hHeld ?_
            rotate_left
            · (intro w' hSw; subst hSw; go_simp; first | done | with_reducible rfl)
            try simp only [List.getElem_toArray, List.getElem_cons_succ, List.getElem_cons_zero, Act.put, List.setIfInBounds_toArray, List.set_cons_zero, List.set_cons_succ]
            refine wpAnyLIn_take (i := 7) (oi := _) (v := ?_) rfl (by kernel_rfl) (by kernel_rfl) (fun _ _ _ h => h) ⟨Or.inl ⟨by rfl, ?_⟩, fun _ => rfl⟩ hHeld ?_
            rotate_left
            · (intro w' hSw; subst hSw; go_simp; first | done | with_reducible rfl)
            try simp only [List.getElem_toArray, List.getElem_cons_succ, List.getElem_cons_zero, Act.put, List.setIfInBounds_toArray, List.set_cons_zero, List.set_cons_succ]
            refine wpAnyLIn_take (i := 8) (oi := _) (v := ?_) rfl (by kernel_rfl) (by kernel_rfl) (fun _ _ _ h => h) ⟨Or.inl ⟨by rfl, ?_⟩, fun _ => rfl⟩ hHeld ?_
            rotate_left
            · (intro w' hSw; subst hSw; go_simp; first | done | with_reducible rfl)
            try simp only [List.getElem_toArray, List.getElem_cons_succ, List.getElem_cons_zero, Act.put, List.setIfInBounds_toArray, List.set_cons_zero, List.set_cons_succ]
            refine wpAnyLIn_one (i := 9) (o := _) rfl (by kernel_rfl) (fun K hK1 => ?_)
            go_simp
            refine hK1.out _ _ hHeld (fun hHeld => ?_)
            clear hK1 K
            try simp only [List.getElem_toArray, List.getElem_cons_succ, List.getElem_cons_zero, Act.put, List.setIfInBounds_toArray, List.set_cons_zero, List.set_cons_succ]
            refine wpAnyLIn_take (i := 10) (oi := _) (v := ?_) rfl (by kernel_rfl) (by kernel_rfl) (fun _ _ _ h => h) ⟨Or.inl ⟨by rfl, ?_⟩, fun _ => rfl⟩ hHeld ?_
            rotate_left
            · (intro w' hSw; subst hSw; go_simp; first | done | with_reducible rfl)
            try simp only [List.getElem_toArray, List.getElem_cons_succ, List.getElem_cons_zero, Act.put, List.setIfInBounds_toArray, List.set_cons_zero, List.set_cons_succ]
            refine wpAnyLIn_last rfl (by kernel_rfl) ?_
            intro K' hK'
            go_simp
            refine hK'.out _ _ (NoPanic.normal ?_)
            clear hK' K' hHeld o1 o2 p4
            generalize (W2.setCell ⟨X.O, 0, none⟩ (.bool true)) = W3 at *
            have b10 : W3.heap[w.heap.size + 1 + 1 + 1 + 1 + 1]? = some (.cells #[.bool false] 4) := (chain _ _ (Hid.out HS2)).turn.at k7 (by omega)
            have b10c : W3.cell? ⟨w.heap.size + 1 + 1 + 1 + 1 + 1, 0, none⟩ = some (.bool false) := by rw [cell_of_row _ _ _ _ _ _ b10]; rfl
            have b10f : W3.frozen? ⟨w.heap.size + 1 + 1 + 1 + 1 + 1, 0, none⟩ = false := frozen_of_row _ _ _ _ _ b10
            have b10i := setCell_id W3 _ _ _ b10
            gi_wp2
            have hnew : Sat { X with R := R' } wk (if k = i then stps (D.gid i) d typ st ((pre ++ [x]).map Subtype.val) else sk) W3 := by rw [← hfinal]; exact Hid.out HS2
            exact ⟨(Hid.out HK2).from _, fun _ => hIt _ W3 hnew, (Hid.out HI0 _ _).2 ⟨hnew, hMW.keep (Hid.out HK2)⟩⟩
        · have A3 : Hid (∀ A : World, A.heap = W.heap → Calls Try.prog 58 #[D.tg k, .string typ, .pointer (some ⟨D.Cb k, x.1 * 5, none⟩), .nilFunc] A fun e w' => e = .returned (.int .u8 0) ∧ A = w') := by
            have := Hid.out A2
            simp only [if_neg hcl] at this
            exact this
          have HC : Hid _ := hcl
          clear A2 hcl
          gi_wp2_with fail
          have hh : W.drew.heap = W.heap := rfl
          have sD := Sat.drew hI
          have kD := KeepsOthers.drew W
          refine wpIn_region_noPanic ?_
          refine wpIn_region_last 8 (fun W' => W' = W.drew) hmx rfl (fun hHeld => ?_)
          replace q0 : W.drew.cell? _ = _ := q0
          replace q1 : W.drew.cell? _ = _ := q1
          replace q2 : W.drew.cell? _ = _ := q2
          replace q3 : W.drew.cell? _ = _ := q3
          replace q4 : W.drew.cell? _ = _ := q4
          replace q5 : W.drew.cell? _ = _ := q5
          replace q12 : W.drew.cell? _ = _ := q12
          replace qid : W.drew.cell? _ = _ := qid
          replace qtg : W.drew.cell? _ = _ := qtg
          replace qtv : W.drew.cell? _ = _ := qtv
          generalize W.drew = Wd at *
          refine wpAnyLIn_take (i := 0) (oi := _) (v := ?_) rfl (by kernel_rfl) (by kernel_rfl) (fun _ _ _ h => h) ⟨Or.inl ⟨by rfl, ?_⟩, fun _ => rfl⟩ hHeld ?_
          rotate_left
          · (intro w' hSw; subst hSw; go_simp; first | done | with_reducible rfl)
          try simp only [List.getElem_toArray, List.getElem_cons_succ, List.getElem_cons_zero, Act.put, List.setIfInBounds_toArray, List.set_cons_zero, List.set_cons_succ]
          refine wpAnyLIn_take (i := 1) (oi := _) (v := ?_) rfl (by kernel_rfl) (by kernel_rfl) (fun _ _ _ h => h) ⟨Or.inl ⟨by rfl, ?_⟩, fun _ => rfl⟩ hHeld ?_
          rotate_left
          · (intro w' hSw; subst hSw; go_simp; first | done | with_reducible rfl)
          try simp only [List.getElem_toArray, List.getElem_cons_succ, List.getElem_cons_zero, Act.put, List.setIfInBounds_toArray, List.set_cons_zero, List.set_cons_succ]
          refine wpAnyLIn_take (i := 2) (oi := _) (v := ?_) rfl (by kernel_rfl) (by kernel_rfl) (fun _ _ _ h => h) ⟨Or.inl ⟨by rfl, ?_⟩, fun _ => rfl⟩ hHeld ?_
          rotate_left
          · (intro w' hSw; subst hSw; go_simp; first | done | with_reducible rfl)
          try simp only [List.getElem_toArray, List.getElem_cons_succ, List.getElem_cons_zero, Act.put, List.setIfInBounds_toArray, List.set_cons_zero, List.set_cons_succ]
          refine wpAnyLIn_take (i := 3) (oi := _) (v := ?_) rfl (by kernel_rfl) (by kernel_rfl) (fun _ _ _ h => h) ⟨Or.inl ⟨by rfl, ?_⟩, fun _ => rfl⟩ hHeld ?_
          rotate_left
          · (intro w' hSw; subst hSw; go_simp; first | done | with_reducible rfl)
          try simp only [List.getElem_toArray, List.getElem_cons_succ, List.getElem_cons_zero, Act.put, List.setIfInBounds_toArray, List.set_cons_zero, List.set_cons_succ]
          refine wpAnyLIn_take (i := 4) (oi := _) (v := ?_) rfl (by kernel_rfl) (by kernel_rfl) (fun _ _ _ h => h) ⟨Or.inl ⟨by rfl, ?_⟩, fun _ => rfl⟩ hHeld ?_
          rotate_left
          · (intro w' hSw; subst hSw; go_simp; first | done | with_reducible rfl)
          try simp only [List.getElem_toArray, List.getElem_cons_succ, List.getElem_cons_zero, Act.put, List.setIfInBounds_toArray, List.set_cons_zero, List.set_cons_succ]
          refine wpAnyLIn_take (i := 5) (oi := _) (v := ?_) rfl (by kernel_rfl) (by kernel_rfl) (fun _ _ _ h => h) ⟨Or.inl ⟨by rfl, ?_⟩, fun _ => rfl⟩ hHeld ?_
          rotate_left
          · (intro w' hSw; subst hSw; go_simp; first | done | with_reducible rfl)
          try simp only [List.getElem_toArray, List.getElem_cons_succ, List.getElem_cons_zero, Act.put, List.setIfInBounds_toArray, List.set_cons_zero, List.set_cons_succ]
          refine wpAnyLIn_take (i := 6) (oi := _) (v := ?_) rfl (by kernel_rfl) (by kernel_rfl) (fun _ _ _ h => h) ⟨Or.inl ⟨by rfl, ?_⟩, fun _ => rfl⟩ hHeld ?_
          rotate_left
          · (intro w' hSw; subst hSw; go_simp; first | done | with_reducible rfl)
          try simp only [List.getElem_toArray, List.getElem_cons_succ, List.getElem_cons_zero, Act.put, List.setIfInBounds_toArray, List.set_cons_zero, List.set_cons_succ]
          refine wpAnyLIn_one (i := 7) (o := _) rfl (by kernel_rfl) (fun K hK1 => ?_)
          go_simp
          refine ⟨trivial, ?_⟩
          refine (CallsIn.inRound l (callsIn_wide.2 (Hid.out A1 Wd))).mono ?_
          rintro e w2 ⟨rfl, rfl⟩
          refine hK1.out _ _ hHeld (fun hHeld => ?_)
          clear hK1 K
          try simp only [List.getElem_toArray, List.getElem_cons_succ, List.getElem_cons_zero, Act.put, List.setIfInBounds_toArray, List.set_cons_zero, List.set_cons_succ]
          refine wpAnyLIn_last rfl (by kernel_rfl) ?_
          intro K' hK'
          go_simp
          refine hK'.out _ _ (NoPanic.normal ?_)
          clear hK' K' hHeld
          gi_wp2_with fail
          have hh2 : Wd.drew.heap = W.heap := hh
          have sD2 := Sat.drew sD
          have kD2 := kD.trans (KeepsOthers.drew Wd)
          refine wpIn_region_noPanic ?_
          refine wpIn_region_last 10 (fun W' => W' = Wd.drew) hmx rfl (fun hHeld => ?_)
          replace q0 : Wd.drew.cell? _ = _ := q0
          replace q1 : Wd.drew.cell? _ = _ := q1
          replace q2 : Wd.drew.cell? _ = _ := q2
          replace q3 : Wd.drew.cell? _ = _ := q3
          replace q4 : Wd.drew.cell? _ = _ := q4
          replace q5 : Wd.drew.cell? _ = _ := q5
          replace q12 : Wd.drew.cell? _ = _ := q12
          replace qid : Wd.drew.cell? _ = _ := qid
          replace qtg : Wd.drew.cell? _ = _ := qtg
          generalize Wd.drew = We at *
          refine wpAnyLIn_take (i := 0) (oi := _) (v := ?_) rfl (by kernel_rfl) (by kernel_rfl) (fun _ _ _ h => h) ⟨Or.inl ⟨by rfl, ?_⟩, fun _ => rfl⟩ hHeld ?_
          rotate_left
          · (intro w' hSw; subst hSw; go_simp; first | done | with_reducible rfl)
          try simp only [List.getElem_toArray, List.getElem_cons_succ, List.getElem_cons_zero, Act.put, List.setIfInBounds_toArray, List.set_cons_zero, List.set_cons_succ]
          refine wpAnyLIn_take (i := 1) (oi := _) (v := ?_) rfl (by kernel_rfl) (by kernel_rfl) (fun _ _ _ h => h) ⟨Or.inl ⟨by rfl, ?_⟩, fun _ => rfl⟩ hHeld ?_
          rotate_left
          · (intro w' hSw; subst hSw; go_simp; first | done | with_reducible rfl)
          try simp only [List.getElem_toArray, List.getElem_cons_succ, List.getElem_cons_zero, Act.put, List.setIfInBounds_toArray, List.set_cons_zero, List.set_cons_succ]
          refine wpAnyLIn_take (i := 2) (oi := _) (v := ?_) rfl (by kernel_rfl) (by kernel_rfl) (fun _ _ _ h => h) ⟨Or.inl ⟨by rfl, ?_⟩, fun _ => rfl⟩ hHeld ?_
          rotate_left
          · (intro w' hSw; subst hSw; go_simp; first | done | with_reducible rfl)
          try simp only [List.getElem_toArray, List.getElem_cons_succ, List.getElem_cons_zero, Act.put, List.setIfInBounds_toArray, List.set_cons_zero, List.set_cons_succ]
          refine wpAnyLIn_take (i := 3) (oi := _) (v := ?_) rfl (by kernel_rfl) (by kernel_rfl) (fun _ _ _ h => h) ⟨Or.inl ⟨by rfl, ?_⟩, fun _ => rfl⟩ hHeld ?_
          rotate_left
          · (intro w' hSw; subst hSw; go_simp; first | done | with_reducible rfl)
          try simp only [List.getElem_toArray, List.getElem_cons_succ, List.getElem_cons_zero, Act.put, List.setIfInBounds_toArray, List.set_cons_zero, List.set_cons_succ]
          refine wpAnyLIn_take (i := 4) (oi := _) (v := ?_) rfl (by kernel_rfl) (by kernel_rfl) (fun _ _ _ h => h) ⟨Or.inl ⟨by rfl, ?_⟩, fun _ => rfl⟩ hHeld ?_
          rotate_left
          · (intro w' hSw; subst hSw; go_simp; first | done | with_reducible rfl)
          try simp only [List.getElem_toArray, List.getElem_cons_succ, List.getElem_cons_zero, Act.put, List.setIfInBounds_toArray, List.set_cons_zero, List.set_cons_succ]
          refine wpAnyLIn_take (i := 5) (oi := _) (v := ?_) rfl (by kernel_rfl) (by kernel_rfl) (fun _ _ _ h => h) ⟨Or.inl ⟨by rfl, ?_⟩, fun _ => rfl⟩ hHeld ?_
          rotate_left
          · (intro w' hSw; subst hSw; go_simp; first | done | with_reducible rfl)
          try simp only [List.getElem_toArray, List.getElem_cons_succ, List.getElem_cons_zero, Act.put, List.setIfInBounds_toArray, List.set_cons_zero, List.set_cons_succ]
          refine wpAnyLIn_take (i := 6) (oi := _) (v := ?_) rfl (by kernel_rfl) (by kernel_rfl) (fun _ _ _ h => h) ⟨Or.inl ⟨by rfl, ?_⟩, fun _ => rfl⟩ hHeld ?_
          rotate_left
          · (intro w' hSw; subst hSw; go_simp; first | done | with_reducible rfl)
          try simp only [List.getElem_toArray, List.getElem_cons_succ, List.getElem_cons_zero, Act.put, List.setIfInBounds_toArray, List.set_cons_zero, List.set_cons_succ]
          refine wpAnyLIn_take (i := 7) (oi := _) (v := ?_) rfl (by kernel_rfl) (by kernel_rfl) (fun _ _ _ h => h) ⟨Or.inl ⟨by rfl, ?_⟩, fun _ => rfl⟩ hHeld ?_
          rotate_left
          · (intro w' hSw; subst hSw; go_simp; first | done | with_reducible rfl)
          try simp only [List.getElem_toArray, List.getElem_cons_succ, List.getElem_cons_zero, Act.put, List.setIfInBounds_toArray, List.set_cons_zero, List.set_cons_succ]
          refine wpAnyLIn_one (i := 8) (o := _) rfl (by kernel_rfl) (fun K hK1 => ?_)
          go_simp
          refine ⟨trivial, ?_⟩
          refine (CallsIn.inRound l (callsIn_wide.2 (Hid.out A3 We hh2))).mono ?_
          rintro e w2 ⟨rfl, rfl⟩
          refine hK1.out _ _ hHeld (fun hHeld => ?_)
          clear hK1 K
          try simp only [List.getElem_toArray, List.getElem_cons_succ, List.getElem_cons_zero, Act.put, List.setIfInBounds_toArray, List.set_cons_zero, List.set_cons_succ]
          refine wpAnyLIn_one (i := 9) (o := _) rfl (by kernel_rfl) (fun K hK1 => ?_)
          go_simp
          refine hK1.out _ _ hHeld (fun hHeld => ?_)
          clear hK1 K
          try simp only [List.getElem_toArray, List.getElem_cons_succ, List.getElem_cons_zero, Act.put, List.setIfInBounds_toArray, List.set_cons_zero, List.set_cons_succ]
          refine wpAnyLIn_last rfl (by kernel_rfl) ?_
          intro K' hK'
          go_simp
          refine hK'.out _ _ (NoPanic.normal ?_)
          clear hK' K' hHeld
          gi_wp2
          have hnew : Sat { X with R := R' } wk (if k = i then stps (D.gid i) d typ st ((pre ++ [x]).map Subtype.val) else sk) We := by
            by_cases hki : k = i
            · rw [if_pos hki] at sD2 ⊢
              rw [List.map_append, List.map_cons, List.map_nil, stps_snoc, stp_off]
              · exact sD2
              · intro h0
                refine (Hid.out HC) ⟨hki, ?_⟩
                rw [msOf_congr (stps_map _ _ _ _ st), hL, ← hki] at h0
                exact h0
            · rw [if_neg hki] at sD2 ⊢
              exact sD2
          exact ⟨kD2.from _, fun _ => hIt _ We hnew, (Hid.out HI0 _ _).2 ⟨hnew, hMW.keep kD2⟩⟩
      case done =>
        rintro D' xs W hD hSx hIw hK
        obtain ⟨hI, hMW⟩ := (hI0 _ _).1 hIw
        have HI0 : Hid _ := hI0
        clear hI0 hIw
        have hfin : Sat X wB (if k + 1 ≤ i then st else stps (D.gid i) d typ st (openIdx (msOf st.L) (D.hg i) (D.ex i) (D.te i) st.L.length)) W := by
          have h := chain _ _ hI
          by_cases hki : k = i
          · rw [if_pos hki] at h
            rw [if_neg (by omega)]
            have e : xs.map Subtype.val = openIdx (msOf st.L) (D.hg i) (D.ex i) (D.te i) st.L.length := by rw [hL, ← hki]; exact hSx
            rw [e] at h
            exact h
          · rw [if_neg hki, hsk2 hki] at h; exact h
        have hmk := hMW.push (by omega) hD hK
        have HF : Hid _ := hfin
        have HM : Hid (Marks wB.heap.size W.heap.size ({ target := .collected D', args := #[] } :: ds) W) := hmk
        have hw := wrap_succ k X.N hlt hG.nn
        have hms : X.N - (k + 1) < X.N - k := Nat.sub_lt_sub_left hlt (Nat.lt_succ_self k)
        clear hfin hmk hSx hsk1 hsk2 hI
        gi_wp2
        rw [hw]
        refine ⟨⟨k + 1, _, _, _, _, _, _, _, _, _, _, _, _, _, _, hlt, Hid.out HM, Hid.out HF, rfl⟩, ?_⟩
        exact hms
      case stop =>
        rintro D' c pre W _ _ h _
        exact h.elim
    · gi_wp2_with fail
      rw [if_neg (by omega)] at hS
      refine leaves_marks (B := wB.heap.size) (U := wr.heap.size) (fun A => Sat X wB (stps (D.gid i) d typ st (openIdx (msOf st.L) (D.hg i) (D.ex i) (D.te i) st.L.length)) A) ?_ ?_ ds wr hM hS
      · intro A D0 h h0 hle
        exact h.own (grownBy_putObj' A D0 _) (fun r e => by cases e; exact ⟨hle, _, h0, rfl⟩)
      · intro A h
        exact ⟨_, results_none rfl _ _ _, rfl, h.weaken hb⟩
end Go.Proofs.Qxb6608902a
