import Derived.Test.Qxb6608902aStb
namespace Go.Proofs.Qxb6608902a
open Go.RowKit Go.Shelf
attribute [local go_sem] Oper.semAt_some

set_option linter.unusedSimpArgs false in
set_option maxRecDepth 100000 in
set_option maxHeartbeats 2000000 in
theorem quota40 (X : Cx) (o : Nat) (gid d : Int) (typ : ByteArray) (ask : Bool) (gp : Option Addr) (hg ex te : Bool) (st : St) (w : World) (hsat : Sat X w st w) (hf : Fit X w)
    (h0 : w.cell? ⟨X.G, o, none⟩ = some (.int .u32 gid)) (h2 : w.cell? ⟨X.G, o + 2, none⟩ = some (.slice (some ⟨X.C, 0, none⟩) st.L.length st.L.length)) (h4 : w.cell? ⟨X.G, o + 4, none⟩ = some (.pointer gp)) (hgr : GrantAt w gp hg ex te)
    (hgn : ∀ B, gp = some ⟨B, 0, none⟩ → ¬ (B = X.S ∨ B = X.C ∨ B = X.O ∨ B = X.R)) (hX : X.S < w.heap.size ∧ X.C < w.heap.size ∧ X.O < w.heap.size ∧ X.R < w.heap.size) (hd : -4611686018427387904 ≤ d ∧ d ≤ 4611686018427387904) (hL : st.L.length ≤ 1048576) (hn : st.n ≤ 1048576) (na : Nat) (ys : List Value) (hna : na ≤ 1048576) (hak : w.ownsRow X.base 22 1 X.ak na ys) (hRt : ∃ cs, w.heap[X.R]? = some (.cells cs 97)) :
    Calls Try.prog 40 #[.pointer (some ⟨X.S, 0, none⟩), .agg #[.int .u64 (nsOf d), .int .i64 (secOf d), .pointer none], .pointer (some ⟨X.G, o, none⟩), .string typ, .bool ask, .pointer (some ⟨X.O, 0, none⟩)] w fun e w' => e = .returned (.tuple #[]) ∧
      Fin X w (stps gid d typ st (openIdx (msOf st.L) hg ex te st.L.length)) (if ask then na + 1 else na) (if ask then ys ++ [.int .u32 gid] else ys) w' := by
  refine (callsIn_wide (n := 10)).1 ?_
  refine callsIn_of_wp_marks Try.func40 rfl trivial ?_ rfl
  simp only [Try.ntmps40, List.size_toArray, List.length_cons, List.length_nil, Nat.reduceAdd, Nat.reduceSub, Array.replicate_succ, Array.replicate_zero, List.push_toArray, List.append_toArray, List.nil_append, List.cons_append]
  gi_wp2_with fail
  refine ⟨trivial, ?_⟩
  refine (callsIn_wide.2 (open52 _ _)).mono ?_
  rintro e w' ⟨rfl, rfl⟩
  gi_wp2_with fail
  have hb : Below w.heap.size w ((((((w.alloc (.cells #[.pointer (some ⟨X.S, 0, none⟩)] 54)).alloc (.cells #[.int .u64 (nsOf d), .int .i64 (secOf d), .pointer none] 112)).alloc (.cells #[.pointer (some ⟨X.G, o, none⟩)] 59)).alloc (.cells #[.string typ] 93)).alloc (.cells #[.pointer (some ⟨X.O, 0, none⟩)] 56)).alloc (.cells #[.pointer (some ⟨X.G, o, none⟩)] 59)) := by
    repeat (first | exact Below.refl _ _ | refine Below.alloc ?_ (by simp; omega) _ | refine Below.alloc ?_ (by simp) _)
  have hsz : ((((((w.alloc (.cells #[.pointer (some ⟨X.S, 0, none⟩)] 54)).alloc (.cells #[.int .u64 (nsOf d), .int .i64 (secOf d), .pointer none] 112)).alloc (.cells #[.pointer (some ⟨X.G, o, none⟩)] 59)).alloc (.cells #[.string typ] 93)).alloc (.cells #[.pointer (some ⟨X.O, 0, none⟩)] 56)).alloc (.cells #[.pointer (some ⟨X.G, o, none⟩)] 59)).heap.size = w.heap.size + 6 := by simp
  have k0 : ((((((w.alloc (.cells #[.pointer (some ⟨X.S, 0, none⟩)] 54)).alloc (.cells #[.int .u64 (nsOf d), .int .i64 (secOf d), .pointer none] 112)).alloc (.cells #[.pointer (some ⟨X.G, o, none⟩)] 59)).alloc (.cells #[.string typ] 93)).alloc (.cells #[.pointer (some ⟨X.O, 0, none⟩)] 56)).alloc (.cells #[.pointer (some ⟨X.G, o, none⟩)] 59)).cell? ⟨w.heap.size, 0, none⟩ = some (.pointer (some ⟨X.S, 0, none⟩)) := by go_simp
  have k1 : ((((((w.alloc (.cells #[.pointer (some ⟨X.S, 0, none⟩)] 54)).alloc (.cells #[.int .u64 (nsOf d), .int .i64 (secOf d), .pointer none] 112)).alloc (.cells #[.pointer (some ⟨X.G, o, none⟩)] 59)).alloc (.cells #[.string typ] 93)).alloc (.cells #[.pointer (some ⟨X.O, 0, none⟩)] 56)).alloc (.cells #[.pointer (some ⟨X.G, o, none⟩)] 59)).cell? ⟨w.heap.size + 1, 0, none⟩ = some (.int .u64 (nsOf d)) := by go_simp
  have k2 : ((((((w.alloc (.cells #[.pointer (some ⟨X.S, 0, none⟩)] 54)).alloc (.cells #[.int .u64 (nsOf d), .int .i64 (secOf d), .pointer none] 112)).alloc (.cells #[.pointer (some ⟨X.G, o, none⟩)] 59)).alloc (.cells #[.string typ] 93)).alloc (.cells #[.pointer (some ⟨X.O, 0, none⟩)] 56)).alloc (.cells #[.pointer (some ⟨X.G, o, none⟩)] 59)).cell? ⟨w.heap.size + 1, 1, none⟩ = some (.int .i64 (secOf d)) := by go_simp
  have k3 : ((((((w.alloc (.cells #[.pointer (some ⟨X.S, 0, none⟩)] 54)).alloc (.cells #[.int .u64 (nsOf d), .int .i64 (secOf d), .pointer none] 112)).alloc (.cells #[.pointer (some ⟨X.G, o, none⟩)] 59)).alloc (.cells #[.string typ] 93)).alloc (.cells #[.pointer (some ⟨X.O, 0, none⟩)] 56)).alloc (.cells #[.pointer (some ⟨X.G, o, none⟩)] 59)).cell? ⟨w.heap.size + 1, 2, none⟩ = some (.pointer none) := by go_simp
  have k4 : ((((((w.alloc (.cells #[.pointer (some ⟨X.S, 0, none⟩)] 54)).alloc (.cells #[.int .u64 (nsOf d), .int .i64 (secOf d), .pointer none] 112)).alloc (.cells #[.pointer (some ⟨X.G, o, none⟩)] 59)).alloc (.cells #[.string typ] 93)).alloc (.cells #[.pointer (some ⟨X.O, 0, none⟩)] 56)).alloc (.cells #[.pointer (some ⟨X.G, o, none⟩)] 59)).cell? ⟨w.heap.size + 1 + 1, 0, none⟩ = some (.pointer (some ⟨X.G, o, none⟩)) := by go_simp
  have k5 : ((((((w.alloc (.cells #[.pointer (some ⟨X.S, 0, none⟩)] 54)).alloc (.cells #[.int .u64 (nsOf d), .int .i64 (secOf d), .pointer none] 112)).alloc (.cells #[.pointer (some ⟨X.G, o, none⟩)] 59)).alloc (.cells #[.string typ] 93)).alloc (.cells #[.pointer (some ⟨X.O, 0, none⟩)] 56)).alloc (.cells #[.pointer (some ⟨X.G, o, none⟩)] 59)).cell? ⟨w.heap.size + 1 + 1 + 1, 0, none⟩ = some (.string typ) := by go_simp
  have k6 : ((((((w.alloc (.cells #[.pointer (some ⟨X.S, 0, none⟩)] 54)).alloc (.cells #[.int .u64 (nsOf d), .int .i64 (secOf d), .pointer none] 112)).alloc (.cells #[.pointer (some ⟨X.G, o, none⟩)] 59)).alloc (.cells #[.string typ] 93)).alloc (.cells #[.pointer (some ⟨X.O, 0, none⟩)] 56)).alloc (.cells #[.pointer (some ⟨X.G, o, none⟩)] 59)).cell? ⟨w.heap.size + 1 + 1 + 1 + 1, 0, none⟩ = some (.pointer (some ⟨X.O, 0, none⟩)) := by go_simp
  have k7 : ((((((w.alloc (.cells #[.pointer (some ⟨X.S, 0, none⟩)] 54)).alloc (.cells #[.int .u64 (nsOf d), .int .i64 (secOf d), .pointer none] 112)).alloc (.cells #[.pointer (some ⟨X.G, o, none⟩)] 59)).alloc (.cells #[.string typ] 93)).alloc (.cells #[.pointer (some ⟨X.O, 0, none⟩)] 56)).alloc (.cells #[.pointer (some ⟨X.G, o, none⟩)] 59)).cell? ⟨w.heap.size + 1 + 1 + 1 + 1 + 1, 0, none⟩ = some (.pointer (some ⟨X.G, o, none⟩)) := by go_simp
  generalize ((((((w.alloc (.cells #[.pointer (some ⟨X.S, 0, none⟩)] 54)).alloc (.cells #[.int .u64 (nsOf d), .int .i64 (secOf d), .pointer none] 112)).alloc (.cells #[.pointer (some ⟨X.G, o, none⟩)] 59)).alloc (.cells #[.string typ] 93)).alloc (.cells #[.pointer (some ⟨X.O, 0, none⟩)] 56)).alloc (.cells #[.pointer (some ⟨X.G, o, none⟩)] 59)) = wB at *
  have sB : Sat X wB st wB := hsat.start hb
  have fB : Fit X wB := hf.later hb
  have gB : Grp X wB (w.heap.size + 1 + 1 + 1 + 1 + 1) o gp hg ex te gid st.L.length := by
    refine ⟨k7, by omega, cell_later hb h0, cell_later hb h2, cell_later hb h4, ?_, hgn⟩
    rcases hgr with h | ⟨B, e1, e2, e3, e4⟩
    · exact .inl h
    · exact .inr ⟨B, e1, e2, cell_later hb e3, cell_later hb e4⟩
  refine wpIn_rangeFunc_ownG rfl (by omega) (gf := 60) (lb := #[.pointer (some ⟨w.heap.size + 1 + 1 + 1 + 1 + 1, 0, none⟩)]) rfl trivial (enters_of Try.func60 (by kernel_rfl) rfl)
    (open_stops 9 (by omega) (w.heap.size + 1 + 1 + 1 + 1 + 1) X.G o X.C st.L.length hL (msOf st.L) gp hg ex te wB (sB.it fB rfl gB))
    (fun h1 h2 h => h2 (h1 h))
    (fun W l o o' _ hl hc _ hi => hi.keep fun p v hp => cell_kept hp (grownBy_putObj' W l o') (fun r e => by cases e; exact ⟨_, hl, hc⟩))
    (Below.refl _ _) (fun _ => rfl)
    (fun (pre : List { j : Nat // j < st.L.length }) W => Sat X wB (stps gid d typ st (pre.map Subtype.val)) W) (fun _ _ _ => False)
    (fun s A B row hs hg hr => hs.own hg hr) (fun _ _ _ _ _ h _ _ => h) sB
    (fun x => { tmps := #[.pointer (some ⟨X.S, 0, none⟩), .agg #[.int .u64 (nsOf d), .int .i64 (secOf d), .pointer none], .pointer (some ⟨X.G, o, none⟩), .string typ, .bool ask, .pointer (some ⟨X.O, 0, none⟩),
      .pointer (some ⟨w.heap.size, 0, none⟩), .pointer (some ⟨w.heap.size + 1, 0, none⟩), .pointer (some ⟨w.heap.size + 1 + 1, 0, none⟩), .pointer (some ⟨w.heap.size + 1 + 1 + 1, 0, none⟩), undef, .pointer (some ⟨w.heap.size + 1 + 1 + 1 + 1, 0, none⟩),
      .pointer (some ⟨X.C, x.1 * 5, none⟩), .pointer (some ⟨X.G, o, none⟩), .func (.func 60) #[] #[.pointer (some ⟨w.heap.size + 1 + 1 + 1 + 1 + 1, 0, none⟩)], .pointer (some ⟨X.C, x.1 * 5, none⟩), undef, undef, undef, undef, undef, undef, undef, undef, undef, undef, undef, undef, undef, undef, undef, undef, undef, undef, undef, undef, undef, undef, undef, undef, undef, undef, undef, undef, undef, undef, undef, undef], defers := [] }) ?assign ?body ?done ?stop
  case assign =>
    intro l x W K hK
    gi_wp2
    exact hK
  case body =>
    rintro l pre x W hI hlt
    have hmap : (stps gid d typ st (pre.map Subtype.val)).L.map Ct.m = st.L.map Ct.m := stps_map gid d typ _ st
    have hnn := stps_n gid d typ (pre.map Subtype.val) st
    rw [List.length_map] at hnn
    have hsn := stps_snoc gid d typ st (pre.map Subtype.val) x.1
    have hit := hI.it fB hmap gB
    have hT := hI.turn
    have q2 := hit.2.2.2.1 x.1 x.2
    generalize hcur : stps gid d typ st (pre.map Subtype.val) = cur at *
    have hxl : x.1 < cur.L.length := by
      have := congrArg List.length hmap
      simp at this
      have := x.2
      omega
    obtain ⟨c, hc⟩ : ∃ c, cur.L[x.1]? = some c := ⟨_, List.getElem?_eq_getElem hxl⟩
    have hcm : msOf st.L x.1 = c.m := by rw [← msOf_congr hmap]; exact msOf_some hc
    rw [hcm] at q2
    have hstp : stp gid d typ cur x.1 = if c.m = 0 then { stC gid d typ 2 cur x.1 c with im := true } else cur := by simp only [stp, hc]
    have hmx : Try.prog.follows .mixedOrders = true := by kernel_rfl
    have hd1 : 1 ≤ 10 - 1 - 1 := by omega
    have HS : Hid _ := hsn
    have HP : Hid _ := hstp
    have HI : Hid _ := hI
    clear hsn hstp hI
    by_cases hm0 : c.m = 0
    · rw [if_pos hm0] at HP
      rw [hm0] at q2
      have j0 := hT.cell k0 (by dsimp only; omega)
      have j1 := hT.cell k1 (by dsimp only; omega)
      have j2 := hT.cell k2 (by dsimp only; omega)
      have j3 := hT.cell k3 (by dsimp only; omega)
      have j4 := hT.cell k4 (by dsimp only; omega)
      have j5 := hT.cell k5 (by dsimp only; omega)
      have j6 := hT.cell k6 (by dsimp only; omega)
      have jg := hT.cell gB.id fB.ne
      gi_wp2_with fail
      have sD : Sat X wB cur W.drew := Sat.drew (Hid.out HI)
      have kD := KeepsOthers.drew W
      refine wpIn_region_noPanic ?_
      refine wpIn_region_last 8 (fun W' => W' = W.drew) hmx rfl (fun hHeld => ?_)
      replace j0 : W.drew.cell? _ = _ := j0
      replace j1 : W.drew.cell? _ = _ := j1
      replace j2 : W.drew.cell? _ = _ := j2
      replace j3 : W.drew.cell? _ = _ := j3
      replace j4 : W.drew.cell? _ = _ := j4
      replace j5 : W.drew.cell? _ = _ := j5
      replace jg : W.drew.cell? _ = _ := jg
      generalize W.drew = Wd at *
      refine wpAnyLIn_take (i := 0) (oi := _) (v := ?_) rfl (by kernel_rfl) (by kernel_rfl) (fun _ _ _ h => h) ⟨Or.inl ⟨by rfl, ?_⟩, fun _ => rfl⟩ hHeld ?_
      rotate_left
      · (intro w' hSw; subst hSw; go_simp; first | done | with_reducible rfl)
      try simp only [Act.put, List.setIfInBounds_toArray, List.set_cons_zero, List.set_cons_succ]
      refine wpAnyLIn_take (i := 1) (oi := _) (v := ?_) rfl (by kernel_rfl) (by kernel_rfl) (fun _ _ _ h => h) ⟨Or.inl ⟨by rfl, ?_⟩, fun _ => rfl⟩ hHeld ?_
      rotate_left
      · (intro w' hSw; subst hSw; go_simp; first | done | with_reducible rfl)
      try simp only [Act.put, List.setIfInBounds_toArray, List.set_cons_zero, List.set_cons_succ]
      refine wpAnyLIn_take (i := 2) (oi := _) (v := ?_) rfl (by kernel_rfl) (by kernel_rfl) (fun _ _ _ h => h) ⟨Or.inl ⟨by rfl, ?_⟩, fun _ => rfl⟩ hHeld ?_
      rotate_left
      · (intro w' hSw; subst hSw; go_simp; first | done | with_reducible rfl)
      try simp only [Act.put, List.setIfInBounds_toArray, List.set_cons_zero, List.set_cons_succ]
      refine wpAnyLIn_take (i := 3) (oi := _) (v := ?_) rfl (by kernel_rfl) (by kernel_rfl) (fun _ _ _ h => h) ⟨Or.inl ⟨by rfl, ?_⟩, fun _ => rfl⟩ hHeld ?_
      rotate_left
      · (intro w' hSw; subst hSw; go_simp; first | done | with_reducible rfl)
      try simp only [Act.put, List.setIfInBounds_toArray, List.set_cons_zero, List.set_cons_succ]
      refine wpAnyLIn_take (i := 4) (oi := _) (v := ?_) rfl (by kernel_rfl) (by kernel_rfl) (fun _ _ _ h => h) ⟨Or.inl ⟨by rfl, ?_⟩, fun _ => rfl⟩ hHeld ?_
      rotate_left
      · (intro w' hSw; subst hSw; go_simp; first | done | with_reducible rfl)
      try simp only [Act.put, List.setIfInBounds_toArray, List.set_cons_zero, List.set_cons_succ]
      refine wpAnyLIn_take (i := 5) (oi := _) (v := ?_) rfl (by kernel_rfl) (by kernel_rfl) (fun _ _ _ h => h) ⟨Or.inl ⟨by rfl, ?_⟩, fun _ => rfl⟩ hHeld ?_
      rotate_left
      · (intro w' hSw; subst hSw; go_simp; first | done | with_reducible rfl)
      try simp only [Act.put, List.setIfInBounds_toArray, List.set_cons_zero, List.set_cons_succ]
      refine wpAnyLIn_take (i := 6) (oi := _) (v := ?_) rfl (by kernel_rfl) (by kernel_rfl) (fun _ _ _ h => h) ⟨Or.inl ⟨by rfl, ?_⟩, fun _ => rfl⟩ hHeld ?_
      rotate_left
      · (intro w' hSw; subst hSw; go_simp; first | done | with_reducible rfl)
      try simp only [Act.put, List.setIfInBounds_toArray, List.set_cons_zero, List.set_cons_succ]
      refine wpAnyLIn_take (i := 7) (oi := _) (v := ?_) rfl (by kernel_rfl) (by kernel_rfl) (fun _ _ _ h => h) ⟨Or.inl ⟨by rfl, ?_⟩, fun _ => rfl⟩ hHeld ?_
      rotate_left
      · (intro w' hSw; subst hSw; go_simp; first | done | with_reducible rfl)
      try simp only [Act.put, List.setIfInBounds_toArray, List.set_cons_zero, List.set_cons_succ]
      refine wpAnyLIn_last rfl (by kernel_rfl) ?_
      intro K' hK'
      go_simp
      refine ⟨trivial, ?_⟩
      refine (CallsIn.inRound l (callsIn_wide.2 (sD.close fB x.1 c hc (by omega) gid d 2 typ hd))).mono ?_
      rintro e W1 ⟨rfl, s1, kp1⟩
      refine hK'.out _ _ (NoPanic.normal ?_)
      clear hK' K' hHeld j0 j1 j2 j3 j4 j5 jg
      have hT1 := s1.turn
      have j6 := hT1.cell k6 (by dsimp only; omega)
      obtain ⟨iO, hO1⟩ : ∃ iO, W1.heap[X.O]? = some (.cells #[iO, X.tr, X.ak] 140) := by
        obtain ⟨_, _, _, _, _, hO, _⟩ := s1
        exact ⟨_, hO⟩
      have o1 : W1.cell? ⟨X.O, 0, none⟩ = some iO := by rw [cell_of_row _ _ _ _ _ _ hO1]; rfl
      have o2 : W1.frozen? ⟨X.O, 0, none⟩ = false := frozen_of_row _ _ _ _ _ hO1
      have s2 := s1.imm true
      have HS2 : Hid _ := s2
      have HS1 : Hid _ := s1
      clear s1 s2 hT1 hO1 sD
      gi_wp2
      have e2 : stps gid d typ st ((pre ++ [x]).map Subtype.val) = { stC gid d typ 2 cur x.1 c with im := true } := by rw [List.map_append, List.map_cons, List.map_nil, HS.out, HP.out]
      refine ⟨((kD.trans kp1).trans (KeepsOthers.setCell _ _ _)).from _, fun _ => ?_, ?_⟩
      · refine Sat.it (st := { stC gid d typ 2 cur x.1 c with im := true }) (Hid.out HS2) fB ?_ gB
        rw [← e2]; exact stps_map gid d typ _ st
      · show Sat X wB (stps gid d typ st ((pre ++ [x]).map Subtype.val)) _
        rw [e2]; exact Hid.out HS2
    · rw [if_neg hm0] at HP
      have hm1 : (c.m == 0) = false := by simp [hm0]
      gi_wp2
      refine ⟨(KeepsOthers.refl _).from _, fun h => h, ?_⟩
      show Sat X wB (stps gid d typ st ((pre ++ [x]).map Subtype.val)) W
      rw [List.map_append, List.map_cons, List.map_nil, HS.out, HP.out]
      exact HI.out
  case done =>
    rintro D xs W hD hS hI hK
    replace hI : Sat X wB (stps gid d typ st (openIdx (msOf st.L) hg ex te st.L.length)) W := by
      rw [← hS]; exact hI
    have hakB : wB.ownsRow X.base 22 1 X.ak na ys := own_turn (R := fun _ => False) hak (Turn.ofBelow hb) (fun _ _ h => h)
    have hRB : ∃ cs, wB.heap[X.R]? = some (.cells cs 97) := by
      obtain ⟨cs, h⟩ := hRt
      exact ⟨cs, (hb.block _ (heap_lt h)).trans h⟩
    have hne := sB.ask_ne hRB hakB
    have hT := hI.turn
    have hakW : W.ownsRow X.base 22 1 X.ak na ys := own_turn hakB hT hne
    obtain ⟨R, cp, eS, eR, eC, eO, eT, eN⟩ := hI
    have T0 : Turn (fun k => k = X.S ∨ k = X.C ∨ k = X.O ∨ k = X.R ∨ X.ak.ownBlock = some k) w W :=
      (Turn.ofBelow hb).trans hT (fun k _ h => by rcases h with h | h | h | h <;> simp [h])
    have hDl := heap_lt hK
    have ptO : ∀ {A : World} (B : Nat) (cs : Array Value) (t : TypeId), A.heap[D]? = some (.deferred (some [])) → A.heap[B]? = some (.cells cs t) → (A.putObj D (.deferred none)).heap[B]? = some (.cells cs t) := by
      intro A B cs t h1 h2
      have := (grownBy_putObj' A D (.deferred none)).block B (heap_lt h2) (by rintro ⟨⟩; rw [h1] at h2; cases h2)
      exact this.trans h2
    have hDw : ¬ D < w.heap.size := by omega
    have hRR : R = X.R ∨ w.heap.size ≤ R := by
      have := hb.size
      rcases eN with h | h
      · exact .inl h
      · exact .inr (by omega)
    cases ask with
    | false =>
      gi_wp2
      refine ⟨by simp, .inl ⟨_, _, rfl, run_takeDeferred hK, ?_⟩⟩
      refine ⟨_, results_none rfl _ _ _, rfl, R, cp, X.ak, ptO _ _ _ hK eS, ownsRow_putObj eR _ hK rfl, ptO _ _ _ hK eC, ptO _ _ _ hK eO, ownsRow_putObj hakW _ hK rfl, ?_⟩
      exact ⟨T0.trans (Turn.ofGrown (grownBy_putObj' W D (.deferred none))) (fun k hk e => by cases e; omega), hRR⟩
    | true =>
      have hmx : Try.prog.follows .mixedOrders = true := by kernel_rfl
      gi_wp2_with fail
      refine wpIn_wide.2 ?_
      refine wp_region_noPanic ?_
      have y1 : W.drew.cell? ⟨w.heap.size + 1 + 1 + 1 + 1, 0, none⟩ = some (.pointer (some ⟨X.O, 0, none⟩)) := hT.cell k6 (by dsimp only; omega)
      have y2 : W.drew.cell? ⟨w.heap.size + 1 + 1, 0, none⟩ = some (.pointer (some ⟨X.G, o, none⟩)) := hT.cell k4 (by dsimp only; omega)
      have y3 : W.drew.cell? ⟨X.G, o, none⟩ = some (.int .u32 gid) := hT.cell gB.id fB.ne
      have y4 : W.drew.cell? ⟨X.O, 2, none⟩ = some X.ak := by
        have : W.cell? ⟨X.O, 2, none⟩ = some X.ak := by rw [cell_of_row _ _ _ _ _ _ eO]; rfl
        exact this
      refine wp_region_last 13 (fun A => A.cell? ⟨w.heap.size + 1 + 1 + 1 + 1, 0, none⟩ = some (.pointer (some ⟨X.O, 0, none⟩)) ∧ A.cell? ⟨w.heap.size + 1 + 1, 0, none⟩ = some (.pointer (some ⟨X.G, o, none⟩)) ∧ A.cell? ⟨X.G, o, none⟩ = some (.int .u32 gid) ∧ A.cell? ⟨X.O, 2, none⟩ = some X.ak) hmx ⟨y1, y2, y3, y4⟩ (fun hHeld => ?_)
      refine wpAnyL_take (i := 0) (oi := _) (v := ?_) rfl (by kernel_rfl) (by kernel_rfl) (fun _ _ _ h => h) (Or.inl ⟨by rfl, ?_⟩) hHeld ?_
      rotate_left
      · (intro w' hSw; obtain ⟨g1, g2, g3, g4⟩ := hSw; go_simp; first | done | with_reducible rfl)
      try simp only [Act.put, List.setIfInBounds_toArray, List.set_cons_zero, List.set_cons_succ]
      refine wpAnyL_take (i := 1) (oi := _) (v := ?_) rfl (by kernel_rfl) (by kernel_rfl) (fun _ _ _ h => h) (Or.inl ⟨by rfl, ?_⟩) hHeld ?_
      rotate_left
      · (intro w' hSw; obtain ⟨g1, g2, g3, g4⟩ := hSw; go_simp; first | done | with_reducible rfl)
      try simp only [Act.put, List.setIfInBounds_toArray, List.set_cons_zero, List.set_cons_succ]
      refine wpAnyL_take (i := 2) (oi := _) (v := ?_) rfl (by kernel_rfl) (by kernel_rfl) (fun _ _ _ h => h) (Or.inl ⟨by rfl, ?_⟩) hHeld ?_
      rotate_left
      · (intro w' hSw; obtain ⟨g1, g2, g3, g4⟩ := hSw; go_simp; first | done | with_reducible rfl)
      try simp only [Act.put, List.setIfInBounds_toArray, List.set_cons_zero, List.set_cons_succ]
      refine wpAnyL_take (i := 3) (oi := _) (v := ?_) rfl (by kernel_rfl) (by kernel_rfl) (fun _ _ _ h => h) (Or.inl ⟨by rfl, ?_⟩) hHeld ?_
      rotate_left
      · (intro w' hSw; obtain ⟨g1, g2, g3, g4⟩ := hSw; go_simp; first | done | with_reducible rfl)
      try simp only [Act.put, List.setIfInBounds_toArray, List.set_cons_zero, List.set_cons_succ]
      refine wpAnyL_take (i := 4) (oi := _) (v := ?_) rfl (by kernel_rfl) (by kernel_rfl) (fun _ _ _ h => h) (Or.inl ⟨by rfl, ?_⟩) hHeld ?_
      rotate_left
      · (intro w' hSw; obtain ⟨g1, g2, g3, g4⟩ := hSw; go_simp; first | done | with_reducible rfl)
      try simp only [Act.put, List.setIfInBounds_toArray, List.set_cons_zero, List.set_cons_succ]
      refine wpAnyL_take (i := 5) (oi := _) (v := ?_) rfl (by kernel_rfl) (by kernel_rfl) (fun _ _ _ h => h) (Or.inl ⟨by rfl, ?_⟩) hHeld ?_
      rotate_left
      · (intro w' hSw; obtain ⟨g1, g2, g3, g4⟩ := hSw; go_simp; first | done | with_reducible rfl)
      try simp only [Act.put, List.setIfInBounds_toArray, List.set_cons_zero, List.set_cons_succ]
      refine wpAnyL_take (i := 6) (oi := _) (v := ?_) rfl (by kernel_rfl) (by kernel_rfl) (fun _ _ _ h => h) (Or.inl ⟨by rfl, ?_⟩) hHeld ?_
      rotate_left
      · (intro w' hSw; obtain ⟨g1, g2, g3, g4⟩ := hSw; go_simp; first | done | with_reducible rfl)
      try simp only [Act.put, List.setIfInBounds_toArray, List.set_cons_zero, List.set_cons_succ]
      refine wpAnyL_take (i := 7) (oi := _) (v := ?_) rfl (by kernel_rfl) (by kernel_rfl) (fun _ _ _ h => h) (Or.inl ⟨by rfl, ?_⟩) hHeld ?_
      rotate_left
      · (intro w' hSw; obtain ⟨g1, g2, g3, g4⟩ := hSw; go_simp; first | done | with_reducible rfl)
      try simp only [Act.put, List.setIfInBounds_toArray, List.set_cons_zero, List.set_cons_succ]
      refine wpAnyL_take (i := 8) (oi := _) (v := ?_) rfl (by kernel_rfl) (by kernel_rfl) (fun _ _ _ h => h) (Or.inl ⟨by rfl, ?_⟩) hHeld ?_
      rotate_left
      · (intro w' hSw; obtain ⟨g1, g2, g3, g4⟩ := hSw; go_simp; first | done | with_reducible rfl)
      try simp only [Act.put, List.setIfInBounds_toArray, List.set_cons_zero, List.set_cons_succ]
      refine wpAnyL_one (i := 9) (o := _) rfl (by kernel_rfl) (fun K hK1 => ?_)
      go_simp
      have hbl : Below W.heap.size W (W.drew.alloc (.cells #[.int .u32 gid] 22)) := ((Below.refl _ W).drew).alloc (by simp) _
      refine hK1.out _ _ ⟨cell_later hbl y1, cell_later hbl y2, cell_later hbl y3, cell_later hbl y4⟩ (fun hHeld2 => ?_)
      clear hK1 K hHeld
      try simp only [Act.put, List.setIfInBounds_toArray, List.set_cons_zero, List.set_cons_succ]
      obtain ⟨i0, hi, hz0, hz1, hz2⟩ := info_parts Try.info22
      have m1 : na + 1 ≤ maxLen := by simp only [maxLen]; omega
      have m2 : (na + 1) * 4 ≤ 140737488355328 := by omega
      have hsW := hT.size
      have hbs := fB.base
      refine wpAnyL_one (i := 10) (o := _) rfl (by kernel_rfl) (fun K hK1 => ?_)
      refine step_append_lies _ (by rfl) _ _ 44 (by rfl) X.base 22 i0 (.int .u32 0) 1 4 Try.underlying44 hi hz0 hz1 hz2 rfl (by decide) X.ak na ys (by rfl) (own_later97 hakW hbl) ⟨W.heap.size, 0, none⟩ 1 1 [.int .u32 gid] (by rfl) rfl (World.news_of_block (cs := #[.int .u32 gid]) (heap_alloc_new W.drew _)) (by simp [Value.oneCell']) (by decide) m1 m2 (by simp; omega) (W.heap.size + 1) (by simp) ?_
      intro g cap w11 hown11 hgr11 hat11 hlt11
      have T11 := Turn.ofGrown hgr11
      have akl : ∀ k, X.ak.ownBlock = some k → k < w.heap.size := by
        intro k hk
        obtain ⟨cs, hc⟩ := own_typ hak k hk
        exact heap_lt hc
      have akG : ¬ X.ak.ownBlock = some X.G := by
        intro hk
        obtain ⟨cs, hc⟩ := own_typ hakB _ hk
        obtain ⟨gc, hg1, _⟩ := fB.g
        exact neT hc hg1 (by decide) rfl
      have akO : ¬ X.ak.ownBlock = some X.O := fun hk => hne _ hk (.inr (.inr (.inl rfl)))
      have hHeld3 : w11.cell? ⟨w.heap.size + 1 + 1 + 1 + 1, 0, none⟩ = some (.pointer (some ⟨X.O, 0, none⟩)) ∧ w11.cell? ⟨w.heap.size + 1 + 1, 0, none⟩ = some (.pointer (some ⟨X.G, o, none⟩)) ∧ w11.cell? ⟨X.G, o, none⟩ = some (.int .u32 gid) ∧ w11.cell? ⟨X.O, 2, none⟩ = some X.ak :=
        ⟨T11.cell hHeld2.1 (fun h => by have := akl _ h; dsimp only at this; omega), T11.cell hHeld2.2.1 (fun h => by have := akl _ h; dsimp only at this; omega), T11.cell hHeld2.2.2.1 akG, T11.cell hHeld2.2.2.2 akO⟩
      refine hK1.out _ _ hHeld3 (fun hHeld3 => ?_)
      clear hK1 K hHeld2
      try simp only [Act.put, List.setIfInBounds_toArray, List.set_cons_zero, List.set_cons_succ]
      refine wpAnyL_one (i := 11) (o := _) rfl (by kernel_rfl) (fun K hK1 => ?_)
      go_simp
      refine hK1.out _ _ hHeld3 (fun hHeld3 => ?_)
      clear hK1 K
      try simp only [Act.put, List.setIfInBounds_toArray, List.set_cons_zero, List.set_cons_succ]
      refine wpAnyL_take (i := 12) (oi := _) (v := ?_) rfl (by kernel_rfl) (by kernel_rfl) (fun _ _ _ h => h) (Or.inl ⟨by rfl, ?_⟩) hHeld3 ?_
      rotate_left
      · (intro w' hSw; obtain ⟨g1, g2, g3, g4⟩ := hSw; go_simp; first | done | with_reducible rfl)
      try simp only [Act.put, List.setIfInBounds_toArray, List.set_cons_zero, List.set_cons_succ]
      have blk : ∀ k o, ¬ X.ak.ownBlock = some k → W.heap[k]? = some o → w11.heap[k]? = some o := fun k o hk ho => T11.at ((hbl.block k (heap_lt ho)).trans ho) hk
      have akS : ¬ X.ak.ownBlock = some X.S := fun hk => hne _ hk (.inl rfl)
      have akC : ¬ X.ak.ownBlock = some X.C := fun hk => hne _ hk (.inr (.inl rfl))
      have eO11 := blk _ _ akO eO
      have f1 : w11.frozen? ⟨X.O, 2, none⟩ = false := frozen_of_row _ _ _ _ _ eO11
      have f2 := hHeld3.2.2.2
      have zK : w11.heap[D]? = some (.deferred (some [])) := blk _ _ (fun h => by have := akl _ h; omega) hK
      have zS := blk _ _ akS eS
      have zC := blk _ _ akC eC
      have hakWb : W.ownsRow X.base 22 1 X.ak na ys := hakW
      obtain ⟨rc, hrc⟩ := own_block eR
      have akR : ¬ X.ak.ownBlock = some R := by
        intro hk
        obtain ⟨cs, hc⟩ := own_typ hakWb _ hk
        exact neT hc hrc (by decide) rfl
      have zR : w11.ownsRow X.base 97 10 (.slice (some ⟨R, 0, none⟩) (stps gid d typ st (openIdx (msOf st.L) hg ex te st.L.length)).n cp) (stps gid d typ st (openIdx (msOf st.L) hg ex te st.L.length)).n (stps gid d typ st (openIdx (msOf st.L) hg ex te st.L.length)).xs :=
        own_turn (own_later97 eR hbl) T11 (fun k e => by cases e; exact akR)
      have zT : Turn (fun k => k = X.S ∨ k = X.C ∨ k = X.O ∨ k = X.R ∨ X.ak.ownBlock = some k) w w11 := (T0.trans (Turn.ofBelow hbl) (fun _ _ h => h)).trans T11 (fun _ _ h => .inr (.inr (.inr (.inr h))))
      have gO : g ≠ X.O := by
        rintro rfl
        obtain ⟨cs, hc⟩ := own_typ hown11 _ rfl
        exact neT hc eO11 (by decide) rfl
      obtain ⟨grc, hgrc⟩ := own_block zR
      have F1 : (w11.setCell ⟨X.O, 2, none⟩ (.slice (some ⟨g, 0, none⟩) (na + 1) cap)).heap[X.S]? = _ := (Below.heap_setCell _ _ _ _ (neT zS eO11 (by decide))).trans zS
      have F2 : (w11.setCell ⟨X.O, 2, none⟩ (.slice (some ⟨g, 0, none⟩) (na + 1) cap)).heap[X.C]? = _ := (Below.heap_setCell _ _ _ _ (neT zC eO11 (by decide))).trans zC
      have F3 : (w11.setCell ⟨X.O, 2, none⟩ (.slice (some ⟨g, 0, none⟩) (na + 1) cap)).heap[X.O]? = _ := heap_setCell_same w11 X.O 2 _ _ _ eO11
      have F4 : (w11.setCell ⟨X.O, 2, none⟩ (.slice (some ⟨g, 0, none⟩) (na + 1) cap)).heap[D]? = _ := (Below.heap_setCell _ _ _ _ (by rintro rfl; rw [zK] at eO11; cases eO11)).trans zK
      have F5 := own_set (o := 2) (u := (.slice (some ⟨g, 0, none⟩) (na + 1) cap)) zR (neT eO11 hgrc (by decide))
      have F6 := own_set (o := 2) (u := (.slice (some ⟨g, 0, none⟩) (na + 1) cap)) hown11 (Ne.symm gO)
      have F7 : Turn _ w (w11.setCell ⟨X.O, 2, none⟩ (.slice (some ⟨g, 0, none⟩) (na + 1) cap)) := zT.setCell (fun _ => .inr (.inr (.inl rfl))) _
      have H1 : Hid _ := F1
      have H2 : Hid _ := F2
      have H3 : Hid _ := F3
      have H4 : Hid _ := F4
      have H5 : Hid _ := F5
      have H6 : Hid _ := F6
      have H7 : Hid _ := F7
      clear F1 F2 F3 F4 F5 F6 F7 zS zC zK zR zT eO11 hown11 hgr11 hrc hgrc
      refine wpAnyL_last rfl (by kernel_rfl) ?_
      intro K' hK'
      go_simp
      refine hK'.out _ _ (NoPanic.normal ?_)
      clear hK' K'
      refine ⟨by simp, .inl ⟨_, _, rfl, run_takeDeferred (Hid.out H4), ?_⟩⟩
      refine ⟨_, results_none rfl _ _ _, rfl, R, cp, _, ptO _ _ _ (Hid.out H4) (Hid.out H1), ownsRow_putObj (Hid.out H5) _ (Hid.out H4) rfl, ptO _ _ _ (Hid.out H4) (Hid.out H2), ptO _ _ _ (Hid.out H4) ?_, ownsRow_putObj (Hid.out H6) _ (Hid.out H4) rfl, ?_⟩
      · exact (Hid.out H3)
      · exact ⟨(Hid.out H7).trans (Turn.ofGrown (grownBy_putObj' _ D (.deferred none))) (fun k hk e => by cases e; omega), hRR⟩
  case stop =>
    rintro D c pre W _ _ h _
    exact h.elim
end Go.Proofs.Qxb6608902a
