import Derived.Test.Qxb6608902aBld
namespace Go.Proofs.Qxb6608902a
open Go.RowKit

set_option linter.unusedSimpArgs false in
set_option maxRecDepth 100000 in
set_option maxHeartbeats 1000000 in
theorem sess17 (a : Option Addr) (c : Nat) (rgs : List Rg) (closed : Int) (pa : Option Addr) (pc : Nat) (prior : List Rc) (w : World) (hn : rgs.length ≤ 1048576) (hp : prior.length ≤ 1048576) (hr : Rd w a 6 (rgs.map Rg.cells)) (hrp : Rd w pa 10 (prior.map Rc.cells))
    (hrc : ∀ g ∈ rgs, g.cs.length ≤ 1048576 ∧ Rd w g.ca 5 (g.cs.map Ct.cells)) (hrt : ∀ g ∈ rgs, g.ts.length ≤ 1048576 ∧ Rd w g.ta 3 (g.ts.map Tg.cells)) :
    Calls Try.prog 17 #[.slice a rgs.length c, .slice none 0 0, .int .i64 closed, .slice pa prior.length pc] w fun e w' => ∃ S G R tva Cb Tb gp, e = .returned (.pointer (some ⟨S, 0, none⟩)) ∧ w'.heap[S]? = some (.cells (sess (.slice (some ⟨G, 0, none⟩) rgs.length rgs.length) (.slice tva 0 0) closed (.slice (some ⟨R, 0, none⟩) prior.length prior.length)) 116) ∧
      w'.heap[G]? = some (.cells (gRow rgs Cb Tb gp rgs.length).toArray 89) ∧ Built w.heap.size rgs rgs.length Cb Tb gp w' ∧ w'.ownsRow w.heap.size 97 10 (.slice (some ⟨R, 0, none⟩) prior.length prior.length) prior.length (rcCells prior) ∧ w.heap.size ≤ S ∧ w.heap.size ≤ G ∧ Below w.heap.size w w' := by
  obtain ⟨i9, hi9, hz90, hz91, hz92⟩ := info_parts Try.info89
  obtain ⟨i2, hi2, hz20, hz21, hz22⟩ := info_parts Try.info82
  obtain ⟨i7, hi7, hz70, hz71, hz72⟩ := info_parts Try.info97
  have hmx : Try.prog.follows .mixedOrders = true := by kernel_rfl
  obtain ⟨wm, hmk, hom, hgm⟩ := run_make_own (P := Try.prog) w w.heap.size 79 89 i9 zero89 5 Try.underlying79 hi9 hz90 hz91 .i64 .i64 rgs.length (by rw [hz92]; omega) (by unfold maxLen; omega) (Nat.le_refl _)
  go_enter Try.func17, Try.ntmps17
  go_wp2
  go_loopw [9, 10] (fun o i wr => ∃ (k : Nat) (Cb Tb : Nat → Nat) (gp : Nat → Option Addr), k ≤ rgs.length ∧ i = .int .i64 k ∧ o = .slice (some ⟨w.heap.size, 0, none⟩) k rgs.length ∧ wr.ownsRow w.heap.size 89 5 (.slice (some ⟨w.heap.size, 0, none⟩) k rgs.length) k (gRow rgs Cb Tb gp k) ∧ Built w.heap.size rgs k Cb Tb gp wr ∧ Below w.heap.size w wr) (fun _ i _ => rgs.length - (intOf i).toNat)
  case atStart => exact ⟨0, fun _ => 0, fun _ => 0, fun _ => none, Nat.zero_le _, rfl, rfl, hom, ⟨fun _ _ h => by omega, fun _ _ h => by omega⟩, (Below.refl _ _).grown hgm (Nat.le_refl _) (fun k e => by cases e)⟩
  case round =>
    obtain ⟨k, Cb, Tb, gp, hk, rfl, rfl, ho, hbt, hb⟩ := hrel
    by_cases hlt : k < rgs.length
    · obtain ⟨g, hy⟩ : ∃ t, rgs[k]? = some t := ⟨_, List.getElem?_eq_getElem hlt⟩
      have hgm' : g ∈ rgs := List.mem_of_getElem? hy
      obtain ⟨hcl, hrc'⟩ := hrc g hgm'
      obtain ⟨htl, hrt'⟩ := hrt g hgm'
      obtain ⟨b, o, rfl, h1⟩ := hr k g.cells (by simp [hy])
      have b1 : (0 : Int) ≤ (k : Int) := by omega
      have b2 : (k : Int) < (rgs.length : Int) := by omega
      have z0 : wr.cell? ⟨b, o + k * 6, none⟩ = some (.int .u32 g.id) := cell_later hb (h1 0 _ rfl)
      have z1 : wr.cell? ⟨b, o + k * 6 + 1, none⟩ = some (.slice g.ca g.cs.length g.cc) := cell_later hb (h1 1 _ rfl)
      have z2 : wr.cell? ⟨b, o + k * 6 + 2, none⟩ = some (.slice g.ta g.ts.length g.tc) := cell_later hb (h1 2 _ rfl)
      have z3 : wr.cell? ⟨b, o + k * 6 + 3, none⟩ = some (.bool g.hg) := cell_later hb (h1 3 _ rfl)
      have z4 : wr.cell? ⟨b, o + k * 6 + 4, none⟩ = some (.bool g.ex) := cell_later hb (h1 4 _ rfl)
      have z5 : wr.cell? ⟨b, o + k * 6 + 5, none⟩ = some (.bool g.te) := cell_later hb (h1 5 _ rfl)
      obtain ⟨wn, hmk2, hom2, hgm2⟩ := run_make_own (P := Try.prog) (wr.alloc (.cells #[.int .u32 g.id, .slice g.ca g.cs.length g.cc, .slice g.ta g.ts.length g.tc, .bool g.hg, .bool g.ex, .bool g.te] 51)) (wr.heap.size + 1) 80 82 i2 zero82 5 Try.underlying80 hi2 hz20 hz21 .i64 .i64 g.cs.length (by rw [hz22]; omega) (by unfold maxLen; omega) (by simp)
      have HB : Hid _ := hb
      have HO : Hid _ := ho
      have HT : Hid _ := hbt
      clear h1 hr hb ho hbt hmk hom hgm hrc hrt hrp
      go_wp2_with fail
      obtain ⟨wo, rfl⟩ : ∃ W, W = wr := ⟨_, rfl⟩
      have hbx : (wo.alloc (.cells #[.int .u32 g.id, .slice g.ca g.cs.length g.cc, .slice g.ta g.ts.length g.tc, .bool g.hg, .bool g.ex, .bool g.te] 51)).heap[wo.heap.size]? = some (.cells #[.int .u32 g.id, .slice g.ca g.cs.length g.cc, .slice g.ta g.ts.length g.tc, .bool g.hg, .bool g.ex, .bool g.te] 51) := heap_alloc_new _ _
      have hb1 : Below wo.heap.size wo (wo.alloc (.cells #[.int .u32 g.id, .slice g.ca g.cs.length g.cc, .slice g.ta g.ts.length g.tc, .bool g.hg, .bool g.ex, .bool g.te] 51)) := (Below.refl _ _).alloc (Nat.le_refl _) _
      have sz1 : (wo.alloc (.cells #[.int .u32 g.id, .slice g.ca g.cs.length g.cc, .slice g.ta g.ts.length g.tc, .bool g.hg, .bool g.ex, .bool g.te] 51)).heap.size = wo.heap.size + 1 := by simp
      generalize (wo.alloc (.cells #[.int .u32 g.id, .slice g.ca g.cs.length g.cc, .slice g.ta g.ts.length g.tc, .bool g.hg, .bool g.ex, .bool g.te] 51)) = wx at *
      rw [sz1] at hom2
      clear hmk2
      go_loopw [12, 13] (fun o i W => ∃ j : Nat, j ≤ g.cs.length ∧ i = .int .i64 j ∧ o = .slice (some ⟨wo.heap.size + 1, 0, none⟩) j g.cs.length ∧ W.ownsRow (wo.heap.size + 1) 82 5 (.slice (some ⟨wo.heap.size + 1, 0, none⟩) j g.cs.length) j (ctCells (g.cs.take j)) ∧ Below (wo.heap.size + 1) wx W) (fun _ i _ => g.cs.length - (intOf i).toNat)
      case atStart => exact ⟨0, Nat.zero_le _, rfl, rfl, hom2, (Below.refl _ _).grown hgm2 (by omega) (fun k e => by cases e)⟩
      case round =>
        obtain ⟨j, hj, rfl, rfl, ho2, hb2⟩ := hrel
        have y : wr.heap[wo.heap.size]? = some (.cells #[.int .u32 g.id, .slice g.ca g.cs.length g.cc, .slice g.ta g.ts.length g.tc, .bool g.hg, .bool g.ex, .bool g.te] 51) := (hb2.block _ (by omega)).trans hbx
        have y0 : wr.cell? ⟨wo.heap.size, 0, none⟩ = some (.int .u32 g.id) := by rw [cell_of_row _ _ _ _ _ _ y]; rfl
        have y1 : wr.cell? ⟨wo.heap.size, 1, none⟩ = some (.slice g.ca g.cs.length g.cc) := by rw [cell_of_row _ _ _ _ _ _ y]; rfl
        have y2 : wr.cell? ⟨wo.heap.size, 2, none⟩ = some (.slice g.ta g.ts.length g.tc) := by rw [cell_of_row _ _ _ _ _ _ y]; rfl
        have y3 : wr.cell? ⟨wo.heap.size, 3, none⟩ = some (.bool g.hg) := by rw [cell_of_row _ _ _ _ _ _ y]; rfl
        have y4 : wr.cell? ⟨wo.heap.size, 4, none⟩ = some (.bool g.ex) := by rw [cell_of_row _ _ _ _ _ _ y]; rfl
        have y5 : wr.cell? ⟨wo.heap.size, 5, none⟩ = some (.bool g.te) := by rw [cell_of_row _ _ _ _ _ _ y]; rfl
        by_cases hjlt : j < g.cs.length
        · obtain ⟨q, hq⟩ : ∃ q, g.cs[j]? = some q := ⟨_, List.getElem?_eq_getElem hjlt⟩
          obtain ⟨b', o', eca, h2⟩ := hrc' j q.cells (by simp [hq])
          rw [eca] at y1
          have hbw : Below w.heap.size w wr := (Hid.out HB).trans ((hb1.mono (Hid.out HB).size).trans (hb2.mono (by have := (Hid.out HB).size; omega)))
          have x0 : wr.cell? ⟨b', o' + j * 5, none⟩ = some (.int .u32 q.a) := cell_later hbw (h2 0 _ rfl)
          have x1 : wr.cell? ⟨b', o' + j * 5 + 1, none⟩ = some (.bool q.b) := cell_later hbw (h2 1 _ rfl)
          have x2 : wr.cell? ⟨b', o' + j * 5 + 2, none⟩ = some (.int .u8 q.m) := cell_later hbw (h2 2 _ rfl)
          have x3 : wr.cell? ⟨b', o' + j * 5 + 3, none⟩ = some (.int .u64 q.up) := cell_later hbw (h2 3 _ rfl)
          have x4 : wr.cell? ⟨b', o' + j * 5 + 4, none⟩ = some (.int .u64 q.dn) := cell_later hbw (h2 4 _ rfl)
          have d1 : (0 : Int) ≤ (j : Int) := by omega
          have d2 : (j : Int) < (g.cs.length : Int) := by omega
          have hsn := ctCells_snoc g.cs j q hq
          have HSN : Hid _ := hsn
          have HO2 : Hid _ := ho2
          have HB2 : Hid _ := hb2
          clear hsn ho2 hb2 hbw h2 hq y eca
          go_wp2_with fail
          refine (new32 q.a q.b q.m q.up q.dn _).mono ?_
          rintro e w1 ⟨rfl, rfl⟩
          have b3 : Below wr.heap.size wr ((wr.alloc (.cells #[.int .u32 q.a, .bool q.b, .int .u8 q.m, .int .u64 q.up, .int .u64 q.dn] 66)).alloc (.cells #[.int .u32 q.a, .bool q.b, .int .u8 q.m, .int .u64 q.up, .int .u64 q.dn] 82)) := ((Below.refl _ wr).alloc (Nat.le_refl _) _).alloc (by simp) _
          generalize ((wr.alloc (.cells #[.int .u32 q.a, .bool q.b, .int .u8 q.m, .int .u64 q.up, .int .u64 q.dn] 66)).alloc (.cells #[.int .u32 q.a, .bool q.b, .int .u8 q.m, .int .u64 q.up, .int .u64 q.dn] 82)) = w1 at *
          have b4 : Below wr.heap.size wr (w1.alloc (.cells #[.int .u32 q.a, .bool q.b, .int .u8 q.m, .int .u64 q.up, .int .u64 q.dn] 82)) := b3.alloc b3.size _
          have o4 := own_later97 (Hid.out HO2) b4
          have hnew := World.news_of_block (heap_alloc_new w1 (.cells #[.int .u32 q.a, .bool q.b, .int .u8 q.m, .int .u64 q.up, .int .u64 q.dn] 82))
          have HO4 : Hid _ := o4
          have HN4 : Hid _ := hnew
          clear o4 hnew
          go_wp2_with (at_builtin; refine wpList_append_fits _ rfl _ _ 80 rfl (wo.heap.size + 1) 82 i2 5 Try.underlying80 hi2 hz21 (wo.heap.size + 1) j g.cs.length (ctCells (g.cs.take j)) rfl (Hid.out HO4) ⟨w1.heap.size, 0, none⟩ 1 1 q.cells rfl rfl (Hid.out HN4) (by simp [Ct.cells, Value.oneCell']) hjlt ?_; intro w3 o3 g3; rw [← Hid.out HSN] at o3)
          have b5 : Below (wo.heap.size + 1) wx w3 := ((Hid.out HB2).trans (b4.mono (by have := (Hid.out HB2).size; omega))).grown g3 (by have := (Hid.out HB2).size; have := b4.size; omega) (fun k e => by cases e; exact Nat.le_refl _)
          go_roundw
          case rel => exact ⟨j + 1, hjlt, by go_num, rfl, o3, b5⟩
          case measure => simp [intOf]; omega
        · obtain rfl : j = g.cs.length := by omega
          rw [List.take_length] at ho2
          have hC := own_full ho2
          have hbw : Below w.heap.size w wr := (Hid.out HB).trans ((hb1.mono (Hid.out HB).size).trans (hb2.mono (by have := (Hid.out HB).size; omega)))
          have hbo : Below wo.heap.size wo wr := hb1.trans (hb2.mono (by omega))
          have T35 : ∀ A : World, Below w.heap.size w A → Hid (Calls Try.prog 35 #[.slice g.ta g.ts.length g.tc] A.drew fun e w' => e = .returned (.slice (some ⟨A.heap.size, 0, none⟩) g.ts.length g.ts.length) ∧ w'.heap[A.heap.size]? = some (.cells (tgCells g.ts).toArray 137) ∧ Below A.heap.size A w') := by
            intro A hA
            have h := trigs35 g.ta g.tc g.ts A.drew htl (hrt'.later hA.drew)
            exact h.mono fun e w' ⟨h1, h2, h3⟩ => ⟨h1, h2, ⟨h3.os, h3.tape, h3.output, h3.size, h3.block⟩⟩
          cases hhg : g.hg with
          | false =>
            rw [hhg] at y3
            clear hrt' hrc' ho2 y
            go_wp2_with fail
            have hgt : GrantT wr none g.hg g.ex g.te := .inl ⟨rfl, hhg⟩
            have hCg := hC
            have bwg := hbw
            have bog := hbo
            have yg0 : wr.drew.cell? ⟨wo.heap.size, 0, none⟩ = some (.int .u32 g.id) := y0
            have yg2 : wr.drew.cell? ⟨wo.heap.size, 2, none⟩ = some (.slice g.ta g.ts.length g.tc) := y2
            clear hhg y0 y1 y2 y3 y4 y5
            obtain ⟨wg, rfl⟩ : ∃ W, W = wr := ⟨_, rfl⟩
            have hg1 := T35 wg bwg
            have hgs := bog.size
            refine wp_region_noPanic ?_
            refine wp_region_last 11 (fun A => A.cell? ⟨wo.heap.size, 0, none⟩ = some (.int .u32 g.id) ∧ A.cell? ⟨wo.heap.size, 2, none⟩ = some (.slice g.ta g.ts.length g.tc)) hmx ⟨yg0, yg2⟩ (fun hHeld => ?_)
            refine wpAnyL_take (i := 0) (oi := _) (v := ?_) rfl (by kernel_rfl) (by kernel_rfl) (fun _ _ _ h => h) (Or.inl ⟨by rfl, ?_⟩) hHeld ?_
            rotate_left
            · (intro w' hSw; obtain ⟨g1, g2⟩ := hSw; go_simp; first | done | with_reducible rfl)
            try simp only [List.getElem_toArray, List.getElem_cons_succ, List.getElem_cons_zero, Act.put, List.setIfInBounds_toArray, List.set_cons_zero, List.set_cons_succ]
            refine wpAnyL_take (i := 1) (oi := _) (v := ?_) rfl (by kernel_rfl) (by kernel_rfl) (fun _ _ _ h => h) (Or.inl ⟨by rfl, ?_⟩) hHeld ?_
            rotate_left
            · (intro w' hSw; obtain ⟨g1, g2⟩ := hSw; go_simp; first | done | with_reducible rfl)
            try simp only [List.getElem_toArray, List.getElem_cons_succ, List.getElem_cons_zero, Act.put, List.setIfInBounds_toArray, List.set_cons_zero, List.set_cons_succ]
            refine wpAnyL_take (i := 2) (oi := _) (v := ?_) rfl (by kernel_rfl) (by kernel_rfl) (fun _ _ _ h => h) (Or.inl ⟨by rfl, ?_⟩) hHeld ?_
            rotate_left
            · (intro w' hSw; obtain ⟨g1, g2⟩ := hSw; go_simp; first | done | with_reducible rfl)
            try simp only [List.getElem_toArray, List.getElem_cons_succ, List.getElem_cons_zero, Act.put, List.setIfInBounds_toArray, List.set_cons_zero, List.set_cons_succ]
            refine wpAnyL_take (i := 3) (oi := _) (v := ?_) rfl (by kernel_rfl) (by kernel_rfl) (fun _ _ _ h => h) (Or.inl ⟨by rfl, ?_⟩) hHeld ?_
            rotate_left
            · (intro w' hSw; obtain ⟨g1, g2⟩ := hSw; go_simp; first | done | with_reducible rfl)
            try simp only [List.getElem_toArray, List.getElem_cons_succ, List.getElem_cons_zero, Act.put, List.setIfInBounds_toArray, List.set_cons_zero, List.set_cons_succ]
            refine wpAnyL_take (i := 4) (oi := _) (v := ?_) rfl (by kernel_rfl) (by kernel_rfl) (fun _ _ _ h => h) (Or.inl ⟨by rfl, ?_⟩) hHeld ?_
            rotate_left
            · (intro w' hSw; obtain ⟨g1, g2⟩ := hSw; go_simp; first | done | with_reducible rfl)
            try simp only [List.getElem_toArray, List.getElem_cons_succ, List.getElem_cons_zero, Act.put, List.setIfInBounds_toArray, List.set_cons_zero, List.set_cons_succ]
            refine wpAnyL_take (i := 5) (oi := _) (v := ?_) rfl (by kernel_rfl) (by kernel_rfl) (fun _ _ _ h => h) (Or.inl ⟨by rfl, ?_⟩) hHeld ?_
            rotate_left
            · (intro w' hSw; obtain ⟨g1, g2⟩ := hSw; go_simp; first | done | with_reducible rfl)
            try simp only [List.getElem_toArray, List.getElem_cons_succ, List.getElem_cons_zero, Act.put, List.setIfInBounds_toArray, List.set_cons_zero, List.set_cons_succ]
            refine wpAnyL_take (i := 7) (oi := _) (v := ?_) rfl (by kernel_rfl) (by kernel_rfl) (fun _ _ _ h => h) (Or.inl ⟨by rfl, ?_⟩) hHeld ?_
            rotate_left
            · (intro w' hSw; obtain ⟨g1, g2⟩ := hSw; go_simp; first | done | with_reducible rfl)
            try simp only [List.getElem_toArray, List.getElem_cons_succ, List.getElem_cons_zero, Act.put, List.setIfInBounds_toArray, List.set_cons_zero, List.set_cons_succ]
            clear yg0 yg2
            refine wpAnyL_one (i := 6) (o := _) rfl (by kernel_rfl) (fun K hK => ?_)
            go_simp
            refine Calls.mono (Hid.out hg1) ?_
            rintro e w5 ⟨rfl, hTb, b5⟩
            refine hK.out _ _ ⟨cell_later (w := wg) b5 hHeld.1, cell_later (w := wg) b5 hHeld.2⟩ (fun hHeld2 => ?_)
            clear hK K hHeld
            try simp only [List.getElem_toArray, List.getElem_cons_succ, List.getElem_cons_zero, Act.put, List.setIfInBounds_toArray, List.set_cons_zero, List.set_cons_succ]
            refine wpAnyL_one (i := 8) (o := _) rfl (by kernel_rfl) (fun K hK => ?_)
            go_simp
            refine (new34 g.id (some ⟨wo.heap.size + 1, 0, none⟩) g.cs.length g.cs.length (some ⟨wg.heap.size, 0, none⟩) g.ts.length g.ts.length none w5).mono ?_
            rintro e w6 ⟨rfl, rfl⟩
            have b6' : Below w5.heap.size w5 (w5.alloc (.cells #[.int .u32 g.id, .slice none 0 0, .slice (some ⟨wo.heap.size + 1, 0, none⟩) g.cs.length g.cs.length, .slice (some ⟨wg.heap.size, 0, none⟩) g.ts.length g.ts.length, .pointer none] 89)) := (Below.refl _ w5).alloc (Nat.le_refl _) _
            have b6 : Below wg.heap.size wg (w5.alloc (.cells #[.int .u32 g.id, .slice none 0 0, .slice (some ⟨wo.heap.size + 1, 0, none⟩) g.cs.length g.cs.length, .slice (some ⟨wg.heap.size, 0, none⟩) g.ts.length g.ts.length, .pointer none] 89)) := b5.trans (b6'.mono b5.size)
            refine hK.out _ _ ⟨cell_later b6' hHeld2.1, cell_later b6' hHeld2.2⟩ (fun hHeld3 => ?_)
            have hT6 := (b6'.block _ (heap_lt hTb)).trans hTb
            clear hK K hHeld2 b6'
            generalize w5.alloc (.cells #[.int .u32 g.id, .slice none 0 0, .slice (some ⟨wo.heap.size + 1, 0, none⟩) g.cs.length g.cs.length, .slice (some ⟨wg.heap.size, 0, none⟩) g.ts.length g.ts.length, .pointer none] 89) = w6 at *
            try simp only [List.getElem_toArray, List.getElem_cons_succ, List.getElem_cons_zero, Act.put, List.setIfInBounds_toArray, List.set_cons_zero, List.set_cons_succ]
            refine wpAnyL_one (i := 9) (o := _) rfl (by kernel_rfl) (fun K hK => ?_)
            go_simp
            have b7' : Below w6.heap.size w6 (w6.alloc (.cells #[.int .u32 g.id, .slice none 0 0, .slice (some ⟨wo.heap.size + 1, 0, none⟩) g.cs.length g.cs.length, .slice (some ⟨wg.heap.size, 0, none⟩) g.ts.length g.ts.length, .pointer none] 89)) := (Below.refl _ w6).alloc (Nat.le_refl _) _
            have b7 : Below wg.heap.size wg (w6.alloc (.cells #[.int .u32 g.id, .slice none 0 0, .slice (some ⟨wo.heap.size + 1, 0, none⟩) g.cs.length g.cs.length, .slice (some ⟨wg.heap.size, 0, none⟩) g.ts.length g.ts.length, .pointer none] 89)) := b6.trans (b7'.mono b6.size)
            refine hK.out _ _ ⟨cell_later b7' hHeld3.1, cell_later b7' hHeld3.2⟩ (fun hHeld4 => ?_)
            clear hK K hHeld3
            have hnew := World.news_of_block (heap_alloc_new w6 (.cells #[.int .u32 g.id, .slice none 0 0, .slice (some ⟨wo.heap.size + 1, 0, none⟩) g.cs.length g.cs.length, .slice (some ⟨wg.heap.size, 0, none⟩) g.ts.length g.ts.length, .pointer none] 89))
            have hT7 := (b7'.block _ (heap_lt hT6)).trans hT6
            clear b7' hT6 hTb
            generalize hB7 : w6.heap.size = B7 at *
            generalize w6.alloc (.cells #[.int .u32 g.id, .slice none 0 0, .slice (some ⟨wo.heap.size + 1, 0, none⟩) g.cs.length g.cs.length, .slice (some ⟨wg.heap.size, 0, none⟩) g.ts.length g.ts.length, .pointer none] 89) = w7 at *
            try simp only [List.getElem_toArray, List.getElem_cons_succ, List.getElem_cons_zero, Act.put, List.setIfInBounds_toArray, List.set_cons_zero, List.set_cons_succ]
            have o7 := own_later97 (Hid.out HO) (bog.trans (b7.mono hgs))
            refine wpAnyL_one (i := 10) (o := _) rfl (by kernel_rfl) (fun K hK => ?_)
            refine step_append_fits (by rfl) _ _ 79 (by rfl) w.heap.size 89 i9 5 Try.underlying79 hi9 hz91 w.heap.size k rgs.length (gRow rgs Cb Tb gp k) (by rfl) o7 ⟨B7, 0, none⟩ 1 1 (gCells g (wo.heap.size + 1) wg.heap.size none) (by rfl) rfl hnew (by simp [gCells, Value.oneCell']) hlt ?_
            intro w8 o8 g8
            have hGo : w.heap.size < wo.heap.size := by
              obtain ⟨cs, h⟩ := own_typ (Hid.out HO) _ rfl
              exact heap_lt h
            have bw7 : Below w.heap.size w w7 := bwg.trans (b7.mono bwg.size)
            have k8 : ∀ (b : Nat) (cs : Array Value) (t : TypeId), w7.heap[b]? = some (.cells cs t) → t ≠ 89 → w8.heap[b]? = some (.cells cs t) := by
              intro b cs t hc ht
              refine (Turn.ofGrown g8).at hc ?_
              intro e
              obtain ⟨cs', h⟩ := own_typ o7 _ rfl
              cases e
              exact neT hc h ht rfl
            have t8 := k8 _ _ _ hT7 (by decide)
            have c8 := k8 _ _ _ ((b7.block _ (heap_lt hCg)).trans hCg) (by decide)
            have gt8 : GrantT w8 none g.hg g.ex g.te := by
              rcases hgt with h | ⟨B, cs, e1, e2, e3, e4, e5⟩
              · exact .inl h
              · exact .inr ⟨B, cs, e1, e2, k8 _ _ _ ((b7.block _ (heap_lt e3)).trans e3) (by decide), e4, e5⟩
            have hT0 : Built w.heap.size rgs k Cb Tb gp wo := Hid.out HT
            have bt8 := ((hT0.later (bog.trans (b7.mono hgs))).keep k8).upd hy (by omega) c8 t8 gt8 (fun j hj => by have := hT0.lt hk j hj; omega)
            have bw8 : Below w.heap.size w w8 := bw7.grown g8 bw7.size (fun k e => by cases e; exact Nat.le_refl _)
            rw [← gRow_upd rgs Cb Tb gp k (wo.heap.size + 1) wg.heap.size none g hy] at o8
            refine hK.out _ _ ⟨cell_grown g8 hHeld4.1 (by omega), cell_grown g8 hHeld4.2 (by omega)⟩ (fun hHeld5 => ?_)
            clear hK K hHeld4
            try simp only [List.getElem_toArray, List.getElem_cons_succ, List.getElem_cons_zero, Act.put, List.setIfInBounds_toArray, List.set_cons_zero, List.set_cons_succ]
            refine wpAnyL_last rfl (by kernel_rfl) ?_
            intro K' hK'
            go_simp
            refine hK'.out _ _ (NoPanic.normal ?_)
            clear hK' K' hHeld5
            have HO8 : Hid _ := o8
            have HB8 : Hid _ := bt8
            have HW8 : Hid _ := bw8
            clear o8 bt8 bw8 bw7 k8 t8 c8 gt8 o7 hT7 hnew g8 hgt hCg T35 hg1 hbx
            go_wp2
            go_roundw
            case rel => exact ⟨k + 1, _, _, _, hlt, by go_num, rfl, Hid.out HO8, Hid.out HB8, Hid.out HW8⟩
            case measure => simp [intOf]; omega
          | true =>
            rw [hhg] at y3
            clear hrt' hrc' ho2 y
            go_wp2_with fail
            refine (new33 g.ex g.te wr).mono ?_
            rintro e w9 ⟨rfl, rfl⟩
            go_wp2_with fail
            have bga : Below wr.heap.size wr (wr.alloc (.cells (grCells g.ex g.te) 134)) := (Below.refl _ wr).alloc (Nat.le_refl _) _
            have hgt : GrantT (wr.alloc (.cells (grCells g.ex g.te) 134)) (some ⟨wr.heap.size, 0, none⟩) g.hg g.ex g.te := .inr ⟨wr.heap.size, grCells g.ex g.te, rfl, hhg, heap_alloc_new _ _, rfl, rfl⟩
            have hCg := (bga.block _ (heap_lt hC)).trans hC
            have bwg := hbw.trans (bga.mono hbw.size)
            have bog := hbo.trans (bga.mono hbo.size)
            have yg0 : (wr.alloc (.cells (grCells g.ex g.te) 134)).drew.cell? ⟨wo.heap.size, 0, none⟩ = some (.int .u32 g.id) := cell_later bga.drew y0
            have yg2 : (wr.alloc (.cells (grCells g.ex g.te) 134)).drew.cell? ⟨wo.heap.size, 2, none⟩ = some (.slice g.ta g.ts.length g.tc) := cell_later bga.drew y2
            clear hhg y0 y1 y2 y3 y4 y5
            generalize hBg : wr.heap.size = Bg at *
            generalize wr.alloc (.cells (grCells g.ex g.te) 134) = wg at *
            have hg1 := T35 wg bwg
            have hgs := bog.size
            refine wp_region_noPanic ?_
            refine wp_region_last 11 (fun A => A.cell? ⟨wo.heap.size, 0, none⟩ = some (.int .u32 g.id) ∧ A.cell? ⟨wo.heap.size, 2, none⟩ = some (.slice g.ta g.ts.length g.tc)) hmx ⟨yg0, yg2⟩ (fun hHeld => ?_)
            refine wpAnyL_take (i := 0) (oi := _) (v := ?_) rfl (by kernel_rfl) (by kernel_rfl) (fun _ _ _ h => h) (Or.inl ⟨by rfl, ?_⟩) hHeld ?_
            rotate_left
            · (intro w' hSw; obtain ⟨g1, g2⟩ := hSw; go_simp; first | done | with_reducible rfl)
            try simp only [List.getElem_toArray, List.getElem_cons_succ, List.getElem_cons_zero, Act.put, List.setIfInBounds_toArray, List.set_cons_zero, List.set_cons_succ]
            refine wpAnyL_take (i := 1) (oi := _) (v := ?_) rfl (by kernel_rfl) (by kernel_rfl) (fun _ _ _ h => h) (Or.inl ⟨by rfl, ?_⟩) hHeld ?_
            rotate_left
            · (intro w' hSw; obtain ⟨g1, g2⟩ := hSw; go_simp; first | done | with_reducible rfl)
            try simp only [List.getElem_toArray, List.getElem_cons_succ, List.getElem_cons_zero, Act.put, List.setIfInBounds_toArray, List.set_cons_zero, List.set_cons_succ]
            refine wpAnyL_take (i := 2) (oi := _) (v := ?_) rfl (by kernel_rfl) (by kernel_rfl) (fun _ _ _ h => h) (Or.inl ⟨by rfl, ?_⟩) hHeld ?_
            rotate_left
            · (intro w' hSw; obtain ⟨g1, g2⟩ := hSw; go_simp; first | done | with_reducible rfl)
            try simp only [List.getElem_toArray, List.getElem_cons_succ, List.getElem_cons_zero, Act.put, List.setIfInBounds_toArray, List.set_cons_zero, List.set_cons_succ]
            refine wpAnyL_take (i := 3) (oi := _) (v := ?_) rfl (by kernel_rfl) (by kernel_rfl) (fun _ _ _ h => h) (Or.inl ⟨by rfl, ?_⟩) hHeld ?_
            rotate_left
            · (intro w' hSw; obtain ⟨g1, g2⟩ := hSw; go_simp; first | done | with_reducible rfl)
            try simp only [List.getElem_toArray, List.getElem_cons_succ, List.getElem_cons_zero, Act.put, List.setIfInBounds_toArray, List.set_cons_zero, List.set_cons_succ]
            refine wpAnyL_take (i := 4) (oi := _) (v := ?_) rfl (by kernel_rfl) (by kernel_rfl) (fun _ _ _ h => h) (Or.inl ⟨by rfl, ?_⟩) hHeld ?_
            rotate_left
            · (intro w' hSw; obtain ⟨g1, g2⟩ := hSw; go_simp; first | done | with_reducible rfl)
            try simp only [List.getElem_toArray, List.getElem_cons_succ, List.getElem_cons_zero, Act.put, List.setIfInBounds_toArray, List.set_cons_zero, List.set_cons_succ]
            refine wpAnyL_take (i := 5) (oi := _) (v := ?_) rfl (by kernel_rfl) (by kernel_rfl) (fun _ _ _ h => h) (Or.inl ⟨by rfl, ?_⟩) hHeld ?_
            rotate_left
            · (intro w' hSw; obtain ⟨g1, g2⟩ := hSw; go_simp; first | done | with_reducible rfl)
            try simp only [List.getElem_toArray, List.getElem_cons_succ, List.getElem_cons_zero, Act.put, List.setIfInBounds_toArray, List.set_cons_zero, List.set_cons_succ]
            refine wpAnyL_take (i := 7) (oi := _) (v := ?_) rfl (by kernel_rfl) (by kernel_rfl) (fun _ _ _ h => h) (Or.inl ⟨by rfl, ?_⟩) hHeld ?_
            rotate_left
            · (intro w' hSw; obtain ⟨g1, g2⟩ := hSw; go_simp; first | done | with_reducible rfl)
            try simp only [List.getElem_toArray, List.getElem_cons_succ, List.getElem_cons_zero, Act.put, List.setIfInBounds_toArray, List.set_cons_zero, List.set_cons_succ]
            clear yg0 yg2
            refine wpAnyL_one (i := 6) (o := _) rfl (by kernel_rfl) (fun K hK => ?_)
            go_simp
            refine Calls.mono (Hid.out hg1) ?_
            rintro e w5 ⟨rfl, hTb, b5⟩
            refine hK.out _ _ ⟨cell_later (w := wg) b5 hHeld.1, cell_later (w := wg) b5 hHeld.2⟩ (fun hHeld2 => ?_)
            clear hK K hHeld
            try simp only [List.getElem_toArray, List.getElem_cons_succ, List.getElem_cons_zero, Act.put, List.setIfInBounds_toArray, List.set_cons_zero, List.set_cons_succ]
            refine wpAnyL_one (i := 8) (o := _) rfl (by kernel_rfl) (fun K hK => ?_)
            go_simp
            refine (new34 g.id (some ⟨wo.heap.size + 1, 0, none⟩) g.cs.length g.cs.length (some ⟨wg.heap.size, 0, none⟩) g.ts.length g.ts.length (some ⟨Bg, 0, none⟩) w5).mono ?_
            rintro e w6 ⟨rfl, rfl⟩
            have b6' : Below w5.heap.size w5 (w5.alloc (.cells #[.int .u32 g.id, .slice none 0 0, .slice (some ⟨wo.heap.size + 1, 0, none⟩) g.cs.length g.cs.length, .slice (some ⟨wg.heap.size, 0, none⟩) g.ts.length g.ts.length, .pointer (some ⟨Bg, 0, none⟩)] 89)) := (Below.refl _ w5).alloc (Nat.le_refl _) _
            have b6 : Below wg.heap.size wg (w5.alloc (.cells #[.int .u32 g.id, .slice none 0 0, .slice (some ⟨wo.heap.size + 1, 0, none⟩) g.cs.length g.cs.length, .slice (some ⟨wg.heap.size, 0, none⟩) g.ts.length g.ts.length, .pointer (some ⟨Bg, 0, none⟩)] 89)) := b5.trans (b6'.mono b5.size)
            refine hK.out _ _ ⟨cell_later b6' hHeld2.1, cell_later b6' hHeld2.2⟩ (fun hHeld3 => ?_)
            have hT6 := (b6'.block _ (heap_lt hTb)).trans hTb
            clear hK K hHeld2 b6'
            generalize w5.alloc (.cells #[.int .u32 g.id, .slice none 0 0, .slice (some ⟨wo.heap.size + 1, 0, none⟩) g.cs.length g.cs.length, .slice (some ⟨wg.heap.size, 0, none⟩) g.ts.length g.ts.length, .pointer (some ⟨Bg, 0, none⟩)] 89) = w6 at *
            try simp only [List.getElem_toArray, List.getElem_cons_succ, List.getElem_cons_zero, Act.put, List.setIfInBounds_toArray, List.set_cons_zero, List.set_cons_succ]
            refine wpAnyL_one (i := 9) (o := _) rfl (by kernel_rfl) (fun K hK => ?_)
            go_simp
            have b7' : Below w6.heap.size w6 (w6.alloc (.cells #[.int .u32 g.id, .slice none 0 0, .slice (some ⟨wo.heap.size + 1, 0, none⟩) g.cs.length g.cs.length, .slice (some ⟨wg.heap.size, 0, none⟩) g.ts.length g.ts.length, .pointer (some ⟨Bg, 0, none⟩)] 89)) := (Below.refl _ w6).alloc (Nat.le_refl _) _
            have b7 : Below wg.heap.size wg (w6.alloc (.cells #[.int .u32 g.id, .slice none 0 0, .slice (some ⟨wo.heap.size + 1, 0, none⟩) g.cs.length g.cs.length, .slice (some ⟨wg.heap.size, 0, none⟩) g.ts.length g.ts.length, .pointer (some ⟨Bg, 0, none⟩)] 89)) := b6.trans (b7'.mono b6.size)
            refine hK.out _ _ ⟨cell_later b7' hHeld3.1, cell_later b7' hHeld3.2⟩ (fun hHeld4 => ?_)
            clear hK K hHeld3
            have hnew := World.news_of_block (heap_alloc_new w6 (.cells #[.int .u32 g.id, .slice none 0 0, .slice (some ⟨wo.heap.size + 1, 0, none⟩) g.cs.length g.cs.length, .slice (some ⟨wg.heap.size, 0, none⟩) g.ts.length g.ts.length, .pointer (some ⟨Bg, 0, none⟩)] 89))
            have hT7 := (b7'.block _ (heap_lt hT6)).trans hT6
            clear b7' hT6 hTb
            generalize hB7 : w6.heap.size = B7 at *
            generalize w6.alloc (.cells #[.int .u32 g.id, .slice none 0 0, .slice (some ⟨wo.heap.size + 1, 0, none⟩) g.cs.length g.cs.length, .slice (some ⟨wg.heap.size, 0, none⟩) g.ts.length g.ts.length, .pointer (some ⟨Bg, 0, none⟩)] 89) = w7 at *
            try simp only [List.getElem_toArray, List.getElem_cons_succ, List.getElem_cons_zero, Act.put, List.setIfInBounds_toArray, List.set_cons_zero, List.set_cons_succ]
            have o7 := own_later97 (Hid.out HO) (bog.trans (b7.mono hgs))
            refine wpAnyL_one (i := 10) (o := _) rfl (by kernel_rfl) (fun K hK => ?_)
            refine step_append_fits (by rfl) _ _ 79 (by rfl) w.heap.size 89 i9 5 Try.underlying79 hi9 hz91 w.heap.size k rgs.length (gRow rgs Cb Tb gp k) (by rfl) o7 ⟨B7, 0, none⟩ 1 1 (gCells g (wo.heap.size + 1) wg.heap.size (some ⟨Bg, 0, none⟩)) (by rfl) rfl hnew (by simp [gCells, Value.oneCell']) hlt ?_
            intro w8 o8 g8
            have hGo : w.heap.size < wo.heap.size := by
              obtain ⟨cs, h⟩ := own_typ (Hid.out HO) _ rfl
              exact heap_lt h
            have bw7 : Below w.heap.size w w7 := bwg.trans (b7.mono bwg.size)
            have k8 : ∀ (b : Nat) (cs : Array Value) (t : TypeId), w7.heap[b]? = some (.cells cs t) → t ≠ 89 → w8.heap[b]? = some (.cells cs t) := by
              intro b cs t hc ht
              refine (Turn.ofGrown g8).at hc ?_
              intro e
              obtain ⟨cs', h⟩ := own_typ o7 _ rfl
              cases e
              exact neT hc h ht rfl
            have t8 := k8 _ _ _ hT7 (by decide)
            have c8 := k8 _ _ _ ((b7.block _ (heap_lt hCg)).trans hCg) (by decide)
            have gt8 : GrantT w8 (some ⟨Bg, 0, none⟩) g.hg g.ex g.te := by
              rcases hgt with h | ⟨B, cs, e1, e2, e3, e4, e5⟩
              · exact .inl h
              · exact .inr ⟨B, cs, e1, e2, k8 _ _ _ ((b7.block _ (heap_lt e3)).trans e3) (by decide), e4, e5⟩
            have hT0 : Built w.heap.size rgs k Cb Tb gp wo := Hid.out HT
            have bt8 := ((hT0.later (bog.trans (b7.mono hgs))).keep k8).upd hy (by omega) c8 t8 gt8 (fun j hj => by have := hT0.lt hk j hj; omega)
            have bw8 : Below w.heap.size w w8 := bw7.grown g8 bw7.size (fun k e => by cases e; exact Nat.le_refl _)
            rw [← gRow_upd rgs Cb Tb gp k (wo.heap.size + 1) wg.heap.size (some ⟨Bg, 0, none⟩) g hy] at o8
            refine hK.out _ _ ⟨cell_grown g8 hHeld4.1 (by omega), cell_grown g8 hHeld4.2 (by omega)⟩ (fun hHeld5 => ?_)
            clear hK K hHeld4
            try simp only [List.getElem_toArray, List.getElem_cons_succ, List.getElem_cons_zero, Act.put, List.setIfInBounds_toArray, List.set_cons_zero, List.set_cons_succ]
            refine wpAnyL_last rfl (by kernel_rfl) ?_
            intro K' hK'
            go_simp
            refine hK'.out _ _ (NoPanic.normal ?_)
            clear hK' K' hHeld5
            have HO8 : Hid _ := o8
            have HB8 : Hid _ := bt8
            have HW8 : Hid _ := bw8
            clear o8 bt8 bw8 bw7 k8 t8 c8 gt8 o7 hT7 hnew g8 hgt hCg T35 hg1 hbx
            go_wp2
            go_roundw
            case rel => exact ⟨k + 1, _, _, _, hlt, by go_num, rfl, Hid.out HO8, Hid.out HB8, Hid.out HW8⟩
            case measure => simp [intOf]; omega
    · obtain rfl : k = rgs.length := by omega
      obtain ⟨wn, hmk2, hom2, hgm2⟩ := run_make_own (P := Try.prog) wr wr.heap.size 92 97 i7 zero97 10 Try.underlying92 hi7 hz70 hz71 .i64 .i64 prior.length (by rw [hz72]; omega) (by unfold maxLen; omega) (Nat.le_refl _)
      have HB : Hid _ := hb
      have HO : Hid _ := own_full ho
      have HT : Hid _ := hbt
      clear hr hb ho hbt hmk hom hgm hrc hrt
      obtain ⟨wo, rfl⟩ : ∃ W, W = wr := ⟨_, rfl⟩
      go_wp2_with fail
      clear hmk2
      go_loopw [16, 17] (fun o i W => ∃ j : Nat, j ≤ prior.length ∧ i = .int .i64 j ∧ o = .slice (some ⟨wo.heap.size, 0, none⟩) j prior.length ∧ W.ownsRow wo.heap.size 97 10 (.slice (some ⟨wo.heap.size, 0, none⟩) j prior.length) j (rcCells (prior.take j)) ∧ Below wo.heap.size wo W) (fun _ i _ => prior.length - (intOf i).toNat)
      case atStart => exact ⟨0, Nat.zero_le _, rfl, rfl, hom2, (Below.refl _ _).grown hgm2 (Nat.le_refl _) (fun k e => by cases e)⟩
      case round =>
        obtain ⟨j, hj, rfl, rfl, ho2, hb2⟩ := hrel
        by_cases hjlt : j < prior.length
        · obtain ⟨p, hq⟩ : ∃ q, prior[j]? = some q := ⟨_, List.getElem?_eq_getElem hjlt⟩
          obtain ⟨b', o', rfl, h2⟩ := hrp j p.cells (by simp [hq])
          have hbw : Below w.heap.size w wr := (Hid.out HB).trans (hb2.mono (Hid.out HB).size)
          have x0 : wr.cell? ⟨b', o' + j * 10, none⟩ = some (.int .u32 p.a) := cell_later hbw (h2 0 _ rfl)
          have x1 : wr.cell? ⟨b', o' + j * 10 + 1, none⟩ = some (.bool p.b) := cell_later hbw (h2 1 _ rfl)
          have x2 : wr.cell? ⟨b', o' + j * 10 + 2, none⟩ = some (.int .u8 p.m) := cell_later hbw (h2 2 _ rfl)
          have x3 : wr.cell? ⟨b', o' + j * 10 + 3, none⟩ = some (.int .u32 p.gid) := cell_later hbw (h2 3 _ rfl)
          have x4 : wr.cell? ⟨b', o' + j * 10 + 4, none⟩ = some (.int .i64 p.cl) := cell_later hbw (h2 4 _ rfl)
          have x5 : wr.cell? ⟨b', o' + j * 10 + 5, none⟩ = some (.string p.typ) := cell_later hbw (h2 5 _ rfl)
          have x6 : wr.cell? ⟨b', o' + j * 10 + 6, none⟩ = some (.int .u8 p.r) := cell_later hbw (h2 6 _ rfl)
          have x7 : wr.cell? ⟨b', o' + j * 10 + 7, none⟩ = some (.int .i64 p.d) := cell_later hbw (h2 7 _ rfl)
          have x8 : wr.cell? ⟨b', o' + j * 10 + 8, none⟩ = some (.int .u64 p.up) := cell_later hbw (h2 8 _ rfl)
          have x9 : wr.cell? ⟨b', o' + j * 10 + 9, none⟩ = some (.int .u64 p.dn) := cell_later hbw (h2 9 _ rfl)
          have d1 : (0 : Int) ≤ (j : Int) := by omega
          have d2 : (j : Int) < (prior.length : Int) := by omega
          have hsn := rcCells_snoc prior j p hq
          have HSN : Hid _ := hsn
          have HO2 : Hid _ := ho2
          have HB2 : Hid _ := hb2
          clear hsn ho2 hb2 hbw h2 hq hrp
          go_wp2_with fail
          have h36 : ∀ W, Calls Try.prog 36 #[.int .u32 p.a, .bool p.b, .int .u8 p.m, .int .u32 p.gid, .int .i64 p.cl, .string p.typ, .int .u8 p.r, .int .i64 p.d, .int .u64 p.up, .int .u64 p.dn] W fun e w' => e = .returned (.agg #[.int .u32 p.a, .bool p.b, .int .u8 p.m, .int .u32 p.gid, .int .i64 p.cl, .string p.typ, .int .u8 p.r, .int .i64 p.d, .int .u64 p.up, .int .u64 p.dn]) ∧ w' = W.alloc (.cells #[.int .u32 p.a, .bool p.b, .int .u8 p.m, .int .u32 p.gid, .int .i64 p.cl, .string p.typ, .int .u8 p.r, .int .i64 p.d, .int .u64 p.up, .int .u64 p.dn] 97) := fun W => new36 p.a p.b p.m p.gid p.cl p.typ p.r p.d p.up p.dn W
          refine (h36 _).mono ?_
          clear h36
          rintro e w1 ⟨rfl, rfl⟩
          have b3 : Below wr.heap.size wr ((wr.alloc (.cells #[.int .u32 p.a, .bool p.b, .int .u8 p.m, .int .u32 p.gid, .int .i64 p.cl, .string p.typ, .int .u8 p.r, .int .i64 p.d, .int .u64 p.up, .int .u64 p.dn] 74)).alloc (.cells #[.int .u32 p.a, .bool p.b, .int .u8 p.m, .int .u32 p.gid, .int .i64 p.cl, .string p.typ, .int .u8 p.r, .int .i64 p.d, .int .u64 p.up, .int .u64 p.dn] 97)) := ((Below.refl _ wr).alloc (Nat.le_refl _) _).alloc (by simp) _
          generalize ((wr.alloc (.cells #[.int .u32 p.a, .bool p.b, .int .u8 p.m, .int .u32 p.gid, .int .i64 p.cl, .string p.typ, .int .u8 p.r, .int .i64 p.d, .int .u64 p.up, .int .u64 p.dn] 74)).alloc (.cells #[.int .u32 p.a, .bool p.b, .int .u8 p.m, .int .u32 p.gid, .int .i64 p.cl, .string p.typ, .int .u8 p.r, .int .i64 p.d, .int .u64 p.up, .int .u64 p.dn] 97)) = w1 at *
          have b4 : Below wr.heap.size wr (w1.alloc (.cells #[.int .u32 p.a, .bool p.b, .int .u8 p.m, .int .u32 p.gid, .int .i64 p.cl, .string p.typ, .int .u8 p.r, .int .i64 p.d, .int .u64 p.up, .int .u64 p.dn] 97)) := b3.alloc b3.size _
          have o4 := own_later97 (Hid.out HO2) b4
          have hnew := World.news_of_block (heap_alloc_new w1 (.cells #[.int .u32 p.a, .bool p.b, .int .u8 p.m, .int .u32 p.gid, .int .i64 p.cl, .string p.typ, .int .u8 p.r, .int .i64 p.d, .int .u64 p.up, .int .u64 p.dn] 97))
          have HO4 : Hid _ := o4
          have HN4 : Hid _ := hnew
          clear o4 hnew
          go_wp2_with (at_builtin; refine wpList_append_fits _ rfl _ _ 92 rfl wo.heap.size 97 i7 10 Try.underlying92 hi7 hz71 wo.heap.size j prior.length (rcCells (prior.take j)) rfl (Hid.out HO4) ⟨w1.heap.size, 0, none⟩ 1 1 p.cells rfl rfl (Hid.out HN4) (by simp [Rc.cells, recCells, Value.oneCell']) hjlt ?_; intro w3 o3 g3; rw [← Hid.out HSN] at o3)
          have b5 : Below wo.heap.size wo w3 := ((Hid.out HB2).trans (b4.mono (Hid.out HB2).size)).grown g3 (by have := (Hid.out HB2).size; have := b4.size; omega) (fun k e => by cases e; exact Nat.le_refl _)
          go_roundw
          case rel => exact ⟨j + 1, hjlt, by go_num, rfl, o3, b5⟩
          case measure => simp [intOf]; omega
        · obtain rfl : j = prior.length := by omega
          rw [List.take_length] at ho2
          have hwo := (Hid.out HB).size
          have hbw : Below w.heap.size w wr := (Hid.out HB).trans (hb2.mono hwo)
          have hGw := (hb2.block _ (heap_lt (Hid.out HO))).trans (Hid.out HO)
          have hTw : Built w.heap.size rgs rgs.length Cb Tb gp wr := Built.later (Hid.out HT) hb2
          have ho' : wr.ownsRow w.heap.size 97 10 (.slice (some ⟨wo.heap.size, 0, none⟩) prior.length prior.length) prior.length (rcCells prior) := by
            refine ⟨ho2.1, ?_⟩
            rcases ho2.2 with h | ⟨g, cap, cur, h1, h2, h3⟩
            · exact .inl h
            · exact .inr ⟨g, cap, cur, h1, by omega, h3⟩
          have HO1 : Hid _ := ho'
          have HT1 : Hid _ := hTw
          have HG1 : Hid _ := hGw
          have HW1 : Hid _ := hbw
          clear ho' hTw hGw hbw ho2 hb2 hrp HB HO HT hom2 hgm2
          go_wp2_with fail
          refine (trigs35 none 0 [] wr (by simp) (fun i xs h => by simp at h)).mono ?_
          rintro e w5 ⟨rfl, -, b5⟩
          go_wp2_with fail
          refine (new37 _ _ _ _ _ _ _ _ _ _ w5).mono ?_
          rintro e w6 ⟨rfl, rfl⟩
          go_wp2
          go_ret
          have bb := (Hid.out HW1).size
          have b6 : Below wr.heap.size wr (w5.alloc (.cells (sess (.slice (some ⟨w.heap.size, 0, none⟩) rgs.length rgs.length) (.slice (some ⟨wr.heap.size, 0, none⟩) 0 0) closed (.slice (some ⟨wo.heap.size, 0, none⟩) prior.length prior.length)) 116)) := b5.alloc b5.size _
          exact ⟨w5.heap.size, w.heap.size, wo.heap.size, _, Cb, Tb, gp, rfl, heap_alloc_new _ _, (b6.block _ (heap_lt (Hid.out HG1))).trans (Hid.out HG1), Built.later (Hid.out HT1) b6, own_later97 (Hid.out HO1) b6, by have := b5.size; omega, Nat.le_refl _, (Hid.out HW1).trans (b6.mono bb)⟩
end Go.Proofs.Qxb6608902a
