import Derived.Test.Qxb6608902aBth
namespace Go.Proofs.Qxb6608902a
open Go.RowKit Go.Shelf

def zero51 : Value := .agg #[.int .u32 0, .slice none 0 0, .slice none 0 0, .bool false, .bool false, .bool false]
theorem Try.info51 : (Try.prog.info? 51).map (fun i => (i.zero, i.size, i.bytes)) = some (some zero51, 6, 64) := by kernel_rfl
theorem make42 (len : Nat) (hm : len ≤ 1048576) (W : World) : ∃ cs : Array Value, cs.size = len * 6 ∧ (Instr.makeSlice 42 (.int .i64 (len : Int)) (.int .i64 (len : Int))).run Try.prog W = .ok (.slice (some ⟨W.heap.size, 0, none⟩) len len) (W.alloc (.cells cs 51)) := by
  obtain ⟨i0, hi, hz0, hz1, hz2⟩ := info_parts Try.info51
  have := run_make (P := Try.prog) W 42 51 i0 zero51 Try.underlying42 hi hz0 .i64 .i64 len len (by omega) (by omega) (by rw [hz2]; omega) (by omega)
  refine ⟨_, ?_, this⟩
  rw [size_madeCells, hz1, Int.toNat_natCast]

set_option maxRecDepth 100000 in
set_option maxHeartbeats 4000000 in
theorem law6 (a : Option Addr) (c : Nat) (rgs : List Rg) (i closed : Int) (pa : Option Addr) (pc : Nat) (prior : List Rc) (atNs : Int) (typ : ByteArray) (ask im : Bool) (oa : Option Addr) (oc : Nat) (ys : List Int) (w : World) (hr : Rd w a 6 (rgs.map Rg.cells)) (hrp : Rd w pa 10 (prior.map Rc.cells))
    (hrc : ∀ g ∈ rgs, Rd w g.ca 5 (g.cs.map Ct.cells)) (hrt : ∀ g ∈ rgs, Rd w g.ta 3 (g.ts.map Tg.cells)) (hm0 : ∀ g ∈ rgs, ∀ c ∈ g.cs, 0 ≤ c.m) (hro : Rd w oa 1 (ys.map fun y => [.int .u32 y])) (hoa : oa = none → ys = [] ∧ oc = 0) (hcl : wrap64 closed = closed) :
    Calls Try.prog 6 #[.slice a rgs.length c, .int .i64 i, .int .i64 closed, .slice pa prior.length pc, .int .i64 atNs, .string typ, .bool ask, .bool im, .slice oa ys.length oc] w fun e w' => e = .returned (.bool true) ∧ Below w.heap.size w w' := by
  have H14 : Hid _ := bytes14 a c rgs i closed pa pc prior atNs typ ask im oa ys.length oc w hr hrp hrt
  go_enter Try.func6, Try.ntmps6
  go_wp2_with fail
  refine Calls.mono (Hid.out H14) ?_
  rintro e w' ⟨b, rfl, hF, rfl⟩
  clear H14
  cases b
  · clear hF hr hrp hrc hrt hm0 hro hoa hcl
    go_wp2
    go_ret
    exact ⟨rfl, Below.refl _ _⟩
  have hF := hF rfl
  have H15 : Hid _ := size15 a c rgs pa pc prior typ oa ys.length oc w hF.n hF.p hr hrp (fun g hg => ⟨(hF.g g hg).2, hrt g hg⟩)
  have HF : Hid _ := hF
  have HR : Hid _ := hr
  have HP : Hid _ := hrp
  have HRC : Hid _ := hrc
  have HRT : Hid _ := hrt
  have HM : Hid _ := hm0
  have HRO : Hid _ := hro
  have HOA : Hid _ := hoa
  have HCL : Hid _ := hcl
  have hn := hF.n
  clear hF hr hrp hrc hrt hm0 hro hoa hcl
  go_wp2_with fail
  refine Calls.mono (Hid.out H15) ?_
  rintro e w' ⟨⟨b, rfl⟩, rfl⟩
  clear H15
  cases b
  · go_wp2
    go_ret
    exact ⟨rfl, Below.refl _ _⟩
  by_cases c1 : atNs < -4611686018427387904
  · go_wp2
    go_ret
    exact ⟨rfl, Below.refl _ _⟩
  by_cases c2 : 4611686018427387904 < atNs
  · have c1' : decide (atNs < -4611686018427387904) = false := by simp [c1]
    go_wp2
    go_ret
    exact ⟨rfl, Below.refl _ _⟩
  have c1' : decide (atNs < -4611686018427387904) = false := by simp [c1]
  have c2' : decide (4611686018427387904 < atNs) = false := by simp [c2]
  by_cases c3 : i < 0
  · go_wp2
    go_ret
    exact ⟨rfl, Below.refl _ _⟩
  have c3' : decide (i < 0) = false := by simp [c3]
  obtain ⟨k, rfl⟩ : ∃ k : Nat, i = (k : Int) := ⟨i.toNat, by omega⟩
  by_cases c4 : rgs.length ≤ k
  · have c4' : (rgs.length : Int) ≤ (k : Int) := by omega
    go_wp2
    go_ret
    exact ⟨rfl, Below.refl _ _⟩
  have c4' : decide ((rgs.length : Int) ≤ (k : Int)) = false := by simp; omega
  obtain ⟨g, hg⟩ : ∃ g, rgs[k]? = some g := ⟨_, List.getElem?_eq_getElem (by omega)⟩
  have hgm : g ∈ rgs := List.mem_of_getElem? hg
  obtain ⟨b, o, rfl, h1⟩ := Hid.out HR k g.cells (by simp [hg])
  have z0 : w.cell? ⟨b, o + k * 6, none⟩ = some (.int .u32 g.id) := h1 0 _ rfl
  have z1 : w.cell? ⟨b, o + k * 6 + 1, none⟩ = some (.slice g.ca g.cs.length g.cc) := h1 1 _ rfl
  have z2 : w.cell? ⟨b, o + k * 6 + 2, none⟩ = some (.slice g.ta g.ts.length g.tc) := h1 2 _ rfl
  have z3 : w.cell? ⟨b, o + k * 6 + 3, none⟩ = some (.bool g.hg) := h1 3 _ rfl
  have z4 : w.cell? ⟨b, o + k * 6 + 4, none⟩ = some (.bool g.ex) := h1 4 _ rfl
  have z5 : w.cell? ⟨b, o + k * 6 + 5, none⟩ = some (.bool g.te) := h1 5 _ rfl
  have b1 : (0 : Int) ≤ (k : Int) := by omega
  have b2 : (k : Int) < (rgs.length : Int) := by omega
  have H16 : Hid _ := meth16 g w ((Hid.out HF).g g hgm).1 (Hid.out HRC g hgm)
  dsimp only [Rg.cells] at H16
  have HG : Hid _ := hg
  clear h1 hg hgm
  go_wp2_with fail
  refine Calls.mono (Hid.out H16) ?_
  rintro e w1 ⟨b', rfl, hM, bel⟩
  clear H16
  cases b'
  · clear hM
    go_wp2
    go_ret
    exact ⟨rfl, bel⟩
  have HML : Hid _ := hM rfl
  obtain ⟨mc, hmc, hmk⟩ := make42 rgs.length hn w1
  have HMC : Hid _ := hmc
  clear hM hmc
  clear z0 z1 z2 z3 z4 z5
  go_wp2_with fail
  have hM0 : (w1.alloc (.cells mc 51)).heap[w1.heap.size]? = some (.cells mc 51) := heap_alloc_new _ _
  have hB0 : Below w1.heap.size w1 (w1.alloc (.cells mc 51)) := (Below.refl _ _).alloc (Nat.le_refl _) _
  generalize w1.alloc (.cells mc 51) = wm at *
  clear hmk
  have hbs := bel.size
  have BEL : Hid _ := bel
  clear bel
  generalize hMe : w1.heap.size = M at *
  have HME : Hid _ := hMe
  clear hMe
  go_loopw [20] (fun i W => ∃ (j : Nat) (cs : Array Value), j ≤ rgs.length ∧ i = .int .i64 j ∧ W.heap[M]? = some (.cells cs 51) ∧ ModOK rgs cs j ∧ Below M w1 W) (fun i _ => rgs.length - (intOf i).toNat)
  case atStart => exact ⟨0, mc, Nat.zero_le _, rfl, hM0, ⟨Hid.out HMC, fun t g ht => by omega⟩, hB0⟩
  case round =>
    obtain ⟨j, cs, hj, rfl, hMj, hOK, hBj⟩ := hrel
    clear hM0 hB0
    by_cases hlt : j < rgs.length
    · obtain ⟨q, hq⟩ : ∃ q, rgs[j]? = some q := ⟨_, List.getElem?_eq_getElem hlt⟩
      obtain ⟨b', o', e', h1⟩ := Hid.out HR j q.cells (by simp [hq])
      cases e'
      have hbw : Below w.heap.size w wr := (Hid.out BEL).trans (hBj.mono hbs)
      have z0 : wr.cell? ⟨b, o + j * 6, none⟩ = some (.int .u32 q.id) := cell_later hbw (h1 0 _ rfl)
      have z1 : wr.cell? ⟨b, o + j * 6 + 1, none⟩ = some (.slice q.ca q.cs.length q.cc) := cell_later hbw (h1 1 _ rfl)
      have z2 : wr.cell? ⟨b, o + j * 6 + 2, none⟩ = some (.slice q.ta q.ts.length q.tc) := cell_later hbw (h1 2 _ rfl)
      have z3 : wr.cell? ⟨b, o + j * 6 + 3, none⟩ = some (.bool q.hg) := cell_later hbw (h1 3 _ rfl)
      have z4 : wr.cell? ⟨b, o + j * 6 + 4, none⟩ = some (.bool q.ex) := cell_later hbw (h1 4 _ rfl)
      have z5 : wr.cell? ⟨b, o + j * 6 + 5, none⟩ = some (.bool q.te) := cell_later hbw (h1 5 _ rfl)
      have d1 : (0 : Int) ≤ (j : Int) := by omega
      have d2 : (j : Int) < (rgs.length : Int) := by omega
      have hcsz := hOK.1
      have fz : ∀ x, wr.frozen? ⟨M, x, none⟩ = false := fun x => frozen_of_row _ _ _ _ _ hMj
      have gc : ∀ x, x < 6 → ∃ v, wr.cell? ⟨M, j * 6 + x, none⟩ = some v := fun x hx => ⟨cs[j * 6 + x]'(by omega), by rw [cell_of_row _ _ _ _ _ _ hMj, Array.getElem?_eq_getElem]⟩
      obtain ⟨v0, y0⟩ := gc 0 (by omega)
      obtain ⟨v1, y1⟩ := gc 1 (by omega)
      obtain ⟨v2, y2⟩ := gc 2 (by omega)
      obtain ⟨v3, y3⟩ := gc 3 (by omega)
      obtain ⟨v4, y4⟩ := gc 4 (by omega)
      obtain ⟨v5, y5⟩ := gc 5 (by omega)
      rw [Nat.add_zero] at y0
      have f0 := fz (j * 6)
      have f1 := fz (j * 6 + 1)
      have f2 := fz (j * 6 + 2)
      have f3 := fz (j * 6 + 3)
      have f4 := fz (j * 6 + 4)
      have f5 := fz (j * 6 + 5)
      have HOK : Hid _ := hOK
      have HMJ : Hid _ := hMj
      have HBJ : Hid _ := hBj
      have HQ : Hid _ := hq
      clear h1 hq hOK hMj hBj hbw gc fz hcsz
      go_wp2_with fail
      refine ⟨⟨j + 1, modSet cs j q, hlt, by go_num, ?_, ModOK.step (Hid.out HOK) (Hid.out HQ), ?_⟩, by simp [intOf]; omega⟩
      · exact heap_setCell_same _ M _ _ _ _ (heap_setCell_same _ M _ _ _ _ (heap_setCell_same _ M _ _ _ _ (heap_setCell_same _ M _ _ _ _ (heap_setCell_same _ M _ _ _ _ (heap_setCell_same _ M _ _ _ _ (heap_setCell_same _ M _ _ _ _ (Hid.out HMJ)))))))
      · exact (((((((Hid.out HBJ).setCell (Nat.le_refl _) _).setCell (Nat.le_refl _) _).setCell (Nat.le_refl _) _).setCell (Nat.le_refl _) _).setCell (Nat.le_refl _) _).setCell (Nat.le_refl _) _).setCell (Nat.le_refl _) _
    · obtain rfl : j = rgs.length := by omega
      have hMl := heap_lt hMj
      have hcsz := hOK.1
      have bA : Below wr.heap.size wr (wr.alloc (.cells #[.string typ, .int .u8 2, .int .u8 0] 53)) := (Below.refl _ wr).alloc (Nat.le_refl _) _
      have hMA : (wr.alloc (.cells #[.string typ, .int .u8 2, .int .u8 0] 53)).heap[M]? = some (.cells cs 51) := (bA.block _ hMl).trans hMj
      obtain ⟨vk, yk⟩ : ∃ v, (wr.alloc (.cells #[.string typ, .int .u8 2, .int .u8 0] 53)).cell? ⟨M, k * 6 + 2, none⟩ = some v := ⟨cs[k * 6 + 2]'(by omega), by rw [cell_of_row _ _ _ _ _ _ hMA, Array.getElem?_eq_getElem]⟩
      have fk : (wr.alloc (.cells #[.string typ, .int .u8 2, .int .u8 0] 53)).frozen? ⟨M, k * 6 + 2, none⟩ = false := frozen_of_row _ _ _ _ _ hMA
      have hTA : (wr.alloc (.cells #[.string typ, .int .u8 2, .int .u8 0] 53)).heap[wr.heap.size]? = some (.cells #[.string typ, .int .u8 2, .int .u8 0] 53) := heap_alloc_new _ _
      have hMB : ((wr.alloc (.cells #[.string typ, .int .u8 2, .int .u8 0] 53)).setCell ⟨M, k * 6 + 2, none⟩ (.slice (some ⟨wr.heap.size, 0, none⟩) 1 1)).heap[M]? = some (.cells (cs.setIfInBounds (k * 6 + 2) (.slice (some ⟨wr.heap.size, 0, none⟩) 1 1)) 51) := heap_setCell_same _ M _ _ _ _ hMA
      have hTB : ((wr.alloc (.cells #[.string typ, .int .u8 2, .int .u8 0] 53)).setCell ⟨M, k * 6 + 2, none⟩ (.slice (some ⟨wr.heap.size, 0, none⟩) 1 1)).heap[wr.heap.size]? = some (.cells #[.string typ, .int .u8 2, .int .u8 0] 53) := (Below.heap_setCell _ _ _ _ (by dsimp only; omega)).trans hTA
      have bB : Below M w1 ((wr.alloc (.cells #[.string typ, .int .u8 2, .int .u8 0] 53)).setCell ⟨M, k * 6 + 2, none⟩ (.slice (some ⟨wr.heap.size, 0, none⟩) 1 1)) := (hBj.trans (bA.mono (by omega))).setCell (Nat.le_refl _) _
      have bW : Below w.heap.size w ((wr.alloc (.cells #[.string typ, .int .u8 2, .int .u8 0] 53)).setCell ⟨M, k * 6 + 2, none⟩ (.slice (some ⟨wr.heap.size, 0, none⟩) 1 1)) := (Hid.out BEL).trans (bB.mono hbs)
      have HMB : Hid _ := hMB
      have HTB : Hid _ := hTB
      have HBW : Hid _ := bW
      have HOK : Hid _ := hOK
      clear hMB hTB bW bB hTA hMA bA hOK hMj hBj hcsz hMl
      clear HMC HME BEL
      go_wp2_with fail
      generalize hwB : ((wr.alloc (.cells #[.string typ, .int .u8 2, .int .u8 0] 53)).setCell ⟨M, k * 6 + 2, none⟩ (.slice (some ⟨wr.heap.size, 0, none⟩) 1 1)) = wB at *
      generalize hT : wr.heap.size = T at *
      clear yk fk hwB hT
      have hklt : k < rgs.length := by omega
      have hF := Hid.out HF
      have bW := Hid.out HBW
      have hmr : Rd wB (some ⟨M, 0, none⟩) 6 ((mods rgs k typ T).map Rg.cells) := rd_mods (Hid.out HOK) hklt (Hid.out HMB)
      have hmc : ∀ g ∈ mods rgs k typ T, g.cs.length ≤ 1048576 ∧ Rd wB g.ca 5 (g.cs.map Ct.cells) := by
        intro g' hg'
        obtain ⟨x, hx⟩ := List.getElem?_of_mem hg'
        rw [mods_get] at hx
        obtain ⟨g0, h0, rfl⟩ := Option.map_eq_some_iff.1 hx
        have hm0 := List.mem_of_getElem? h0
        obtain ⟨e1, e2, _⟩ := modRg_cs k typ T x g0
        rw [e1, e2]
        exact ⟨(hF.g g0 hm0).1, (Hid.out HRC g0 hm0).later bW⟩
      have hmt : ∀ g ∈ mods rgs k typ T, g.ts.length ≤ 1048576 ∧ Rd wB g.ta 3 (g.ts.map Tg.cells) := by
        intro g' hg'
        obtain ⟨x, hx⟩ := List.getElem?_of_mem hg'
        rw [mods_get] at hx
        obtain ⟨g0, h0, rfl⟩ := Option.map_eq_some_iff.1 hx
        unfold modRg
        split
        · refine ⟨by simp, ?_⟩
          intro i' c' hi'
          obtain ⟨rfl, rfl⟩ : i' = 0 ∧ (⟨typ, 2, 0⟩ : Tg).cells = c' := by
            have hl : i' < 1 := by have := (List.getElem?_eq_some_iff.1 hi').1; simpa using this
            obtain rfl : i' = 0 := by omega
            exact ⟨rfl, by simpa using hi'⟩
          refine ⟨T, 0, rfl, fun q v hv => ?_⟩
          rw [cell_of_row _ _ _ _ _ _ (Hid.out HTB)]
          simpa [Tg.cells] using hv
        · exact ⟨by simp [nilT], fun i' c' hi' => by simp [nilT] at hi'⟩
      have H17 : Hid _ := sess17 (some ⟨b, o, none⟩) c rgs closed pa pc prior wB hF.n hF.p (Rd.later (Hid.out HR) bW) (Rd.later (Hid.out HP) bW) (fun g hg => ⟨(hF.g g hg).1, (Hid.out HRC g hg).later bW⟩) (fun g hg => ⟨(hF.g g hg).2, (Hid.out HRT g hg).later bW⟩)
      have HMR : Hid _ := hmr
      have HMC : Hid _ := hmc
      have HMT : Hid _ := hmt
      clear hmr hmc hmt hF bW HOK HMB HTB
      refine Calls.mono (Hid.out H17) ?_
      rintro e w2 ⟨S1, G1, R1, tva1, Cb1, Tb1, gp1, rfl, hS1, hG1, hB1, hR1, lS1, lG1, bel2⟩
      clear H17
      have HS1 : Hid _ := hS1
      have HG1 : Hid _ := hG1
      have HB1 : Hid _ := hB1
      have HR1 : Hid _ := hR1
      have HL1 : Hid _ := lS1
      have HBEL2 : Hid _ := bel2
      clear hS1 hG1 hB1 hR1 lS1 lG1 bel2
      have H17 : Calls Try.prog 17 #[.slice (some ⟨M, 0, none⟩) rgs.length rgs.length, .slice none 0 0, .int .i64 closed, .slice pa prior.length pc] w2 fun e w' => ∃ S G R tva Cb Tb gp, e = .returned (.pointer (some ⟨S, 0, none⟩)) ∧ w'.heap[S]? = some (.cells (sess (.slice (some ⟨G, 0, none⟩) rgs.length rgs.length) (.slice tva 0 0) closed (.slice (some ⟨R, 0, none⟩) prior.length prior.length)) 116) ∧
          w'.heap[G]? = some (.cells (gRow (mods rgs k typ T) Cb Tb gp rgs.length).toArray 89) ∧ Built w2.heap.size (mods rgs k typ T) rgs.length Cb Tb gp w' ∧ w'.ownsRow w2.heap.size 97 10 (.slice (some ⟨R, 0, none⟩) prior.length prior.length) prior.length (rcCells prior) ∧ w2.heap.size ≤ S ∧ w2.heap.size ≤ G ∧ Below w2.heap.size w2 w' := by
        have hF := Hid.out HF
        have b2 := Hid.out HBEL2
        have bW := (Hid.out HBW).trans (b2.mono (Hid.out HBW).size)
        have h := sess17 (some ⟨M, 0, none⟩) rgs.length (mods rgs k typ T) closed pa pc prior w2 (by rw [mods_length]; exact hF.n) hF.p (Rd.later (Hid.out HMR) b2) (Rd.later (Hid.out HP) bW) (fun g hg => ⟨(Hid.out HMC g hg).1, (Hid.out HMC g hg).2.later b2⟩) (fun g hg => ⟨(Hid.out HMT g hg).1, (Hid.out HMT g hg).2.later b2⟩)
        rw [mods_length] at h
        exact h
      have H17' : Hid _ := H17
      clear H17
      go_wp2_with fail
      refine Calls.mono (Hid.out H17') ?_
      rintro e w3 ⟨S2, G2, R2, tva2, Cb2, Tb2, gp2, rfl, hS2, hG2, hB2, hR2, lS2, lG2, bel3⟩
      clear H17'
      have HS2 : Hid _ := hS2
      have HG2 : Hid _ := hG2
      have HB2 : Hid _ := hB2
      have HR2 : Hid _ := hR2
      have HL2 : Hid _ := lS2
      have HBEL3 : Hid _ := bel3
      have bW3 : Hid (Below w.heap.size w w3) := ((Hid.out HBW).trans ((Hid.out HBEL2).mono (Hid.out HBW).size)).trans (bel3.mono (by have := (Hid.out HBW).size; have := (Hid.out HBEL2).size; omega))
      clear hS2 hG2 hB2 hR2 lS2 lG2 bel3
      go_wp2_with fail
      refine Calls.mono (outc18 im oa oc ys w3 (Hid.out HF).o (Rd.later (Hid.out HRO) (Hid.out bW3)) (Hid.out HOA)) ?_
      rintro e w4 ⟨O1, tb1, ak1, rfl, lO1, hO1, hA1, bel4⟩
      have HO1 : Hid _ := hO1
      have HA1 : Hid _ := hA1
      have HLO1 : Hid _ := lO1
      have HBEL4 : Hid _ := bel4
      have bW4 : Hid (Below w.heap.size w w4) := (Hid.out bW3).trans (bel4.mono (Hid.out bW3).size)
      clear hO1 hA1 lO1 bel4
      go_wp2_with fail
      refine Calls.mono (outc18 im oa oc ys w4 (Hid.out HF).o (Rd.later (Hid.out HRO) (Hid.out bW4)) (Hid.out HOA)) ?_
      rintro e w5 ⟨O2, tb2, ak2, rfl, lO2, hO2, hA2, bel5⟩
      have bW5 : Below w.heap.size w w5 := (Hid.out bW4).trans (bel5.mono (Hid.out bW4).size)
      have hBoth : Both w rgs (mods rgs k typ T) k g typ closed prior im ys S1 G1 R1 O1 S2 G2 R2 O2 w5 := both_of (mods_length _ _ _ _) (Hid.out HBW).size (Hid.out HS1) (Hid.out HG1) (Hid.out HB1) (Hid.out HR1) (Hid.out HL1) (Hid.out HBEL2) (Hid.out HS2) (Hid.out HG2) (Hid.out HB2) (Hid.out HR2) (Hid.out HL2) (Hid.out HBEL3) (Hid.out HLO1) (Hid.out HO1) (Hid.out HA1) (Hid.out HBEL4) lO2 hO2 hA2 bel5
      have hS5 : w5.heap[S1]? = some (.cells (sess (.slice (some ⟨G1, 0, none⟩) rgs.length rgs.length) (.slice tva1 0 0) closed (.slice (some ⟨R1, 0, none⟩) prior.length prior.length)) 116) := by
        have h1 := Hid.out HS1
        have h3 := ((Hid.out HBEL3).block _ (heap_lt h1)).trans h1
        have h4 := ((Hid.out HBEL4).block _ (heap_lt h3)).trans h3
        exact (bel5.block _ (heap_lt h4)).trans h4
      have hmm : ∀ c ∈ g.cs, c.m = 0 ∨ c.m = 1 := by
        intro c hc
        have h1 := Hid.out HML c hc
        have h2 := Hid.out HM g (List.mem_of_getElem? (Hid.out HG)) c hc
        omega
      obtain ⟨more, css, hmore, hcss, hcsl, h19⟩ := both_run hBoth bW5 (Hid.out HG) (Hid.out HF).s (Hid.out HF).n (Hid.out HF).p (Hid.out HF).o (Hid.out HCL) hmm atNs ⟨c1, c2⟩ ask
      have H20 : Hid _ := get20 S1 G1 rgs.length k _ _ _ w5 (by omega) hS5
      have H19 : Hid _ := h19
      have HMO : Hid _ := hmore
      have HCS : Hid _ := hcss
      have HCL2 : Hid _ := hcsl
      have hmle : more.length ≤ 1048576 := by
        rw [hmore]
        have h1 := cntO_le g.cs g.hg g.ex g.te g.cs.length
        have h2 := ((Hid.out HF).g g (List.mem_of_getElem? (Hid.out HG))).1
        omega
      have HMLE : Hid _ := hmle
      clear hmle hmore hcss hcsl h19 hmm hS5 hBoth bW5 lO2 hO2 hA2 bel5 HLO1 HO1 HA1 HBEL4 HS2 HG2 HB2 HR2 HL2 HBEL3 HS1 HG1 HB1 HR1 HL1 HBEL2 HMR HMC HMT bW3 bW4 HBW HML HM
      go_wp2_with fail
      refine Calls.mono (Hid.out H20) ?_
      rintro e w5' ⟨rfl, rfl⟩
      clear H20
      go_wp2_with fail
      refine Calls.mono (Hid.out H19) ?_
      rintro e w6 ⟨rfl, h21⟩
      have H21 : Hid _ := h21
      clear H19 h21
      go_wp2_with fail
      refine Calls.mono (Hid.out H21) ?_
      rintro e w7 ⟨rfl, a1, a2, a3, a4, a5⟩
      clear H21
      obtain ⟨zs, hzs⟩ : ∃ zs, zs = (if ask then ys ++ [g.id] else ys) := ⟨_, rfl⟩
      obtain ⟨imv, himv⟩ : ∃ b, b = (im || decide (0 < more.length)) := ⟨_, rfl⟩
      rw [← hzs, ← himv] at a4
      rw [← himv] at a5
      obtain ⟨tbA, aA, cA, oA1, oA2⟩ := a4
      obtain ⟨tbB, aB, cB, oB1, oB2⟩ := a5
      obtain ⟨rs, hrs⟩ : ∃ rs, rs = prior ++ more := ⟨_, rfl⟩
      rw [← hrs] at a1 a2
      have hp' := (Hid.out HF).p
      have hml' := Hid.out HMLE
      have hrl : (rs.length : Int) = (prior.length : Int) + (more.length : Int) := by rw [hrs, List.length_append]; omega
      have hrle : rs.length ≤ 4194304 := by omega
      have hcle : css.length ≤ 4194304 := by have := Hid.out HCS; omega
      have hcl4 : ∀ cs ∈ css, cs.length ≤ 4194304 := fun cs h => by have := Hid.out HCL2 cs h; omega
      have H22 : Hid _ := obs22 S1 rs css _ w7 hrle hcle hcl4 a1
      have A2 : Hid _ := a2
      have A3 : Hid _ := a3
      have OA1 : Hid _ := oA1
      have OA2 : Hid _ := oA2
      have OB1 : Hid _ := oB1
      have OB2 : Hid _ := oB2
      have HZS : Hid _ := hzs
      have HIM : Hid _ := himv
      have HCL4 : Hid _ := hcl4
      clear a1 a2 a3 oA1 oA2 oB1 oB2 hzs himv hrs hcl4 HCL2 HCS
      go_wp2_with fail
      refine Calls.mono (Hid.out H22) ?_
      rintro e w8 ⟨A1, B1, rfl, r1, d1, bel8⟩
      clear H22
      have H22 : Hid _ := obs22 S2 rs css _ w8 hrle hcle (Hid.out HCL4) (Sees.later (Hid.out A2) bel8)
      have R1' : Hid _ := r1
      have D1 : Hid _ := d1
      have BEL8 : Hid _ := bel8
      clear r1 d1 bel8 A2
      go_wp2_with fail
      refine Calls.mono (Hid.out H22) ?_
      rintro e w9 ⟨A2, B2, rfl, r2, d2, bel9⟩
      clear H22
      have b79 : Below w7.heap.size w7 w9 := (Hid.out BEL8).trans (bel9.mono (Hid.out BEL8).size)
      have f1 : Rd w9 (some ⟨A1, 0, none⟩) 10 (rs.map Rc.cells) := Rd.later (Hid.out R1') bel9
      have f2 : Rd2 w9 (some ⟨B1, 0, none⟩) css := Rd2.later (Hid.out D1) bel9
      have f3 := (b79.block _ (heap_lt (Hid.out OA1))).trans (Hid.out OA1)
      have f4 : Rd w9 aA 1 (zs.map fun y => [.int .u32 y]) := Rd.later (Hid.out OA2) b79
      have f5 := (b79.block _ (heap_lt (Hid.out OB1))).trans (Hid.out OB1)
      have f6 : Rd w9 aB 1 (ys.map fun y => [.int .u32 y]) := Rd.later (Hid.out OB2) b79
      have f7 : Below w.heap.size w w9 := (Hid.out A3).trans (b79.mono (Hid.out A3).size)
      have F1 : Hid _ := f1
      have F2 : Hid _ := f2
      have F3 : Hid _ := f3
      have F4 : Hid _ := f4
      have F5 : Hid _ := f5
      have F6 : Hid _ := f6
      have F7 : Hid _ := f7
      have R2' : Hid _ := r2
      have D2 : Hid _ := d2
      obtain ⟨b', o', e', h1⟩ := Hid.out HR k g.cells (by rw [List.getElem?_map, Hid.out HG]; rfl)
      cases e'
      have z0 : w9.cell? ⟨b, o + k * 6, none⟩ = some (.int .u32 g.id) := cell_later f7 (h1 0 _ rfl)
      have z1 : w9.cell? ⟨b, o + k * 6 + 1, none⟩ = some (.slice g.ca g.cs.length g.cc) := cell_later f7 (h1 1 _ rfl)
      have z2 : w9.cell? ⟨b, o + k * 6 + 2, none⟩ = some (.slice g.ta g.ts.length g.tc) := cell_later f7 (h1 2 _ rfl)
      have z3 : w9.cell? ⟨b, o + k * 6 + 3, none⟩ = some (.bool g.hg) := cell_later f7 (h1 3 _ rfl)
      have z4 : w9.cell? ⟨b, o + k * 6 + 4, none⟩ = some (.bool g.ex) := cell_later f7 (h1 4 _ rfl)
      have z5 : w9.cell? ⟨b, o + k * 6 + 5, none⟩ = some (.bool g.te) := cell_later f7 (h1 5 _ rfl)
      clear f1 f2 f3 f4 f5 f6 f7 r2 d2 b79 bel9 BEL8 R1' D1 OA1 OA2 OB1 OB2 A3 h1
      go_wp2_with fail
      clear z0 z1 z2 z3 z4 z5
      have hgB : (w9.alloc (.cells #[.int .u32 g.id, .slice g.ca g.cs.length g.cc, .slice g.ta g.ts.length g.tc, .bool g.hg, .bool g.ex, .bool g.te] 51)).heap[w9.heap.size]? = some (.cells #[.int .u32 g.id, .slice g.ca g.cs.length g.cc, .slice g.ta g.ts.length g.tc, .bool g.hg, .bool g.ex, .bool g.te] 51) := heap_alloc_new _ _
      have bg : Below w9.heap.size w9 (w9.alloc (.cells #[.int .u32 g.id, .slice g.ca g.cs.length g.cc, .slice g.ta g.ts.length g.tc, .bool g.hg, .bool g.ex, .bool g.te] 51)) := (Below.refl _ _).alloc (Nat.le_refl _) _
      generalize (w9.alloc (.cells #[.int .u32 g.id, .slice g.ca g.cs.length g.cc, .slice g.ta g.ts.length g.tc, .bool g.hg, .bool g.ex, .bool g.te] 51)) = wg at *
      have bwg : Below w.heap.size w wg := (Hid.out F7).trans (bg.mono (Hid.out F7).size)
      have hgl := heap_lt hgB
      generalize hBg : w9.heap.size = Bg at *
      have HBG : Hid _ := hBg
      have HGB : Hid _ := hgB
      have BG : Hid _ := bg
      have BWG : Hid _ := bwg
      clear hBg hgB bg bwg
      have hgm : g ∈ rgs := List.mem_of_getElem? (Hid.out HG)
      have hcle' : g.cs.length ≤ 1048576 := ((Hid.out HF).g g hgm).1
      go_loopw [32, 33] (fun n i W => ∃ j : Nat, j ≤ g.cs.length ∧ i = .int .i64 j ∧ n = .int .i64 (cntO g.cs g.hg g.ex g.te j : Nat) ∧ Below wg.heap.size wg W) (fun _ i _ => g.cs.length - (intOf i).toNat)
      case atStart => exact ⟨0, Nat.zero_le _, rfl, rfl, Below.refl _ _⟩
      case round =>
        obtain ⟨j, hj, rfl, rfl, hbj⟩ := hrel
        have y := (hbj.block _ (heap_lt (Hid.out HGB))).trans (Hid.out HGB)
        have y0 : wr.cell? ⟨Bg, 0, none⟩ = some (.int .u32 g.id) := by rw [cell_of_row _ _ _ _ _ _ y]; rfl
        have y1 : wr.cell? ⟨Bg, 1, none⟩ = some (.slice g.ca g.cs.length g.cc) := by rw [cell_of_row _ _ _ _ _ _ y]; rfl
        have y2 : wr.cell? ⟨Bg, 2, none⟩ = some (.slice g.ta g.ts.length g.tc) := by rw [cell_of_row _ _ _ _ _ _ y]; rfl
        have y3 : wr.cell? ⟨Bg, 3, none⟩ = some (.bool g.hg) := by rw [cell_of_row _ _ _ _ _ _ y]; rfl
        have y4 : wr.cell? ⟨Bg, 4, none⟩ = some (.bool g.ex) := by rw [cell_of_row _ _ _ _ _ _ y]; rfl
        have y5 : wr.cell? ⟨Bg, 5, none⟩ = some (.bool g.te) := by rw [cell_of_row _ _ _ _ _ _ y]; rfl
        clear y
        by_cases hjlt : j < g.cs.length
        · obtain ⟨q, hq⟩ : ∃ q, g.cs[j]? = some q := ⟨_, List.getElem?_eq_getElem hjlt⟩
          obtain ⟨b2', o2', eca, h2⟩ := Hid.out HRC g hgm j q.cells (by simp [hq])
          rw [eca] at y1
          have hbw : Below w.heap.size w wr := (Hid.out BWG).trans (hbj.mono (Hid.out BWG).size)
          have x0 : wr.cell? ⟨b2', o2' + j * 5, none⟩ = some (.int .u32 q.a) := cell_later hbw (h2 0 _ rfl)
          have x1 : wr.cell? ⟨b2', o2' + j * 5 + 1, none⟩ = some (.bool q.b) := cell_later hbw (h2 1 _ rfl)
          have x2 : wr.cell? ⟨b2', o2' + j * 5 + 2, none⟩ = some (.int .u8 q.m) := cell_later hbw (h2 2 _ rfl)
          have x3 : wr.cell? ⟨b2', o2' + j * 5 + 3, none⟩ = some (.int .u64 q.up) := cell_later hbw (h2 3 _ rfl)
          have x4 : wr.cell? ⟨b2', o2' + j * 5 + 4, none⟩ = some (.int .u64 q.dn) := cell_later hbw (h2 4 _ rfl)
          have d1 : (0 : Int) ≤ (j : Int) := by omega
          have d2 : (j : Int) < (g.cs.length : Int) := by omega
          have hcn := cntO_succ g.cs g.hg g.ex g.te j q hq
          have hcle2 := cntO_le g.cs g.hg g.ex g.te j
          have HCN : Hid _ := hcn
          have HBJ : Hid _ := hbj
          clear hcn hbj hbw h2 hq
          generalize cntO g.cs g.hg g.ex g.te j = cn at *
          by_cases hm : q.m = 0
          · have H23 : ∀ W, Hid (Calls Try.prog 23 #[.agg #[.int .u32 g.id, .slice (some ⟨b2', o2', none⟩) g.cs.length g.cc, .slice g.ta g.ts.length g.tc, .bool g.hg, .bool g.ex, .bool g.te], .agg #[.int .u32 q.a, .bool q.b, .int .u8 0, .int .u64 q.up, .int .u64 q.dn]] W fun e w' => e = .returned (.bool (g.hg && g.ex && g.te)) ∧ Below W.heap.size W w') := by
              intro W
              have h := blocked23 g { q with m := 0 } W
              simp only [Rg.cells, Ct.cells, eca, decide_true, Bool.true_and] at h
              exact h
            rw [hm] at x2
            have HMQ : Hid _ := hm
            clear eca hm
            obtain ⟨bb, hbb⟩ : ∃ b, b = (g.hg && g.ex && g.te) := ⟨_, rfl⟩
            simp only [← hbb] at H23
            have HBB : Hid _ := hbb
            clear hbb
            have hwr : wr.heap.size ≤ wr.heap.size := Nat.le_refl _
            go_wp2_with fail
            go_cut [167] (fun t W => t = .bool (!bb) ∧ Below wr.heap.size wr W)
            case first =>
              go_region_held3 (fun w' => w'.cell? ⟨Bg, 0, none⟩ = some (.int .u32 g.id) ∧ w'.cell? ⟨Bg, 1, none⟩ = some (.slice (some ⟨b2', o2', none⟩) g.cs.length g.cc) ∧ w'.cell? ⟨Bg, 2, none⟩ = some (.slice g.ta g.ts.length g.tc) ∧ w'.cell? ⟨Bg, 3, none⟩ = some (.bool g.hg) ∧ w'.cell? ⟨Bg, 4, none⟩ = some (.bool g.ex) ∧ w'.cell? ⟨Bg, 5, none⟩ = some (.bool g.te) ∧ w'.cell? ⟨b2', o2' + j * 5, none⟩ = some (.int .u32 q.a) ∧ w'.cell? ⟨b2', o2' + j * 5 + 1, none⟩ = some (.bool q.b) ∧ w'.cell? ⟨b2', o2' + j * 5 + 2, none⟩ = some (.int .u8 0) ∧ w'.cell? ⟨b2', o2' + j * 5 + 3, none⟩ = some (.int .u64 q.up) ∧ w'.cell? ⟨b2', o2' + j * 5 + 4, none⟩ = some (.int .u64 q.dn))
                (first | go_keep | (go_split_ands; refine ⟨?_, ?_, ?_, ?_, ?_, ?_, ?_, ?_, ?_, ?_, ?_⟩ <;> exact cell_later (by assumption) (by assumption)))
                ((first | (go_at_call 23; refine Calls.mono (Hid.out (H23 _)) ?_; rintro e w5 ⟨rfl, h5⟩)))
              all_goals go_wp2_with fail
              go_meet
              case rel => exact ⟨rfl, ⟨h5.os, h5.tape, h5.output, h5.size, h5.block⟩⟩
            case rest =>
            obtain ⟨rfl, bc⟩ := hcut
            have BC : Hid _ := bc
            clear bc H23
            cases bb
            · go_wp2_with fail
              go_roundw
              case rel =>
                refine ⟨j + 1, hjlt, by go_num, ?_, (Hid.out HBJ).trans ((Hid.out BC).mono (Hid.out HBJ).size)⟩
                have := Hid.out HCN
                rw [this, if_pos ⟨Hid.out HMQ, (Hid.out HBB).symm⟩]
                rfl
              case measure => simp [intOf]; omega
            · go_wp2_with fail
              go_roundw
              case rel =>
                refine ⟨j + 1, hjlt, by go_num, ?_, (Hid.out HBJ).trans ((Hid.out BC).mono (Hid.out HBJ).size)⟩
                have := Hid.out HCN
                rw [this, if_neg (fun h => by rw [← Hid.out HBB] at h; cases h.2)]
                rfl
              case measure => simp [intOf]; omega
          · have hm1 : (q.m == 0) = false := by simp [hm]
            have hm2 : decide (q.m = 0) = false := by simp [hm]
            clear eca
            go_wp2_with fail
            go_quiet (fail)
            go_wp2_with fail
            go_roundw
            case rel =>
              refine ⟨j + 1, hjlt, by go_num, ?_, ⟨(Hid.out HBJ).os, (Hid.out HBJ).tape, (Hid.out HBJ).output, (Hid.out HBJ).size, (Hid.out HBJ).block⟩⟩
              have := Hid.out HCN
              rw [this, if_neg (fun h => hm h.1)]
              rfl
            case measure => simp [intOf]; omega
        · obtain rfl : j = g.cs.length := by omega
          have hnn := Hid.out HMO
          rw [← hnn]
          have hbw : Below w.heap.size w wr := (Hid.out BWG).trans (hbj.mono (Hid.out BWG).size)
          have hyl0 := (Hid.out HF).o
          have hyl : ys.length ≤ 4194304 := by omega
          have hbs9 := (Hid.out F7).size
          have BG2 : Hid (Below w9.heap.size w9 wg) := by
            have h := Hid.out BG
            rw [← Hid.out HBG] at h
            exact h
          have HBJ : Hid _ := hbj
          have H24 : Hid _ := copy24 oa oc ys wr hyl0 (Rd.later (Hid.out HRO) hbw) (Hid.out HOA)
          clear hnn hbw hbj
          go_wp2_with fail
          refine Calls.mono (Hid.out H24) ?_
          rintro e wc ⟨v, rfl, hv, hov, hbc⟩
          have B9c : Hid (Below wg.heap.size wg wc) := (Hid.out HBJ).trans (hbc.mono (Hid.out HBJ).size)
          cases ask with
          | false =>
            have hzy : ys = zs := (Hid.out HZS).symm
            subst hzy
            obtain ⟨aW, cW, rfl, hrW, -⟩ := rd_u32 hov rfl
            have RW : Hid _ := hrW
            have B9 : Hid _ := Hid.out B9c
            have hzl := hyl
            clear hv hov hbc hrW H24
            have WX : Hid (Below w.heap.size w wc) := (Hid.out BWG).trans ((Hid.out B9).mono (Hid.out BWG).size)
            have W9 : Hid (Below w9.heap.size w9 wc) := (Hid.out BG2).trans ((Hid.out B9).mono (Hid.out BG2).size)
            go_upto_region 36 with fail
            go_cut [35] (fun t W => t = .bool imv ∧ W = wc)
            case first =>
              cases im
              · by_cases hpos : 0 < more.length
                · have hpos1 : decide (0 < (more.length : Int)) = true := decide_eq_true (by omega)
                  go_wp2_with fail
                  go_meet
                  case rel => exact ⟨by rw [Hid.out HIM]; simp [hpos], rfl⟩
                · have hpos1 : decide (0 < (more.length : Int)) = false := decide_eq_false (by omega)
                  go_wp2_with fail
                  go_meet
                  case rel => exact ⟨by rw [Hid.out HIM]; simp [hpos], rfl⟩
              · go_wp2_with fail
                go_meet
                case rel => exact ⟨by rw [Hid.out HIM]; simp, rfl⟩
            case rest =>
            obtain ⟨rfl, rfl⟩ := hcut
            go_wp2_with fail
            refine (recseq25 _ _ _ _ rs _ hrle (Rd.later (Hid.out F1) (Hid.out W9)) (Rd.later (Hid.out R2') (Hid.out W9))).mono ?_
            rintro e wx ⟨rfl, bx⟩
            have BX : Hid _ := bx
            clear bx
            have W10 : Hid (Below w9.heap.size w9 wx) := (Hid.out W9).trans ((Hid.out BX).mono (Hid.out W9).size)
            go_wp2_with fail
            refine (ctrseq26 _ _ _ _ css _ hcle (Hid.out HCL4) (Rd2.later (Hid.out F2) (Hid.out W10)) (Rd2.later (Hid.out D2) (Hid.out W10))).mono ?_
            rintro e wy ⟨rfl, by_⟩
            have BY : Hid _ := by_
            clear by_
            have W11 : Hid (Below w9.heap.size w9 wy) := (Hid.out W10).trans ((Hid.out BY).mono (Hid.out W10).size)
            have X11 : Hid (Below wc.heap.size wc wy) := (Hid.out BX).trans ((Hid.out BY).mono (Hid.out BX).size)
            go_wp2_with fail
            refine (outc27 O1 imv tbA aA aW cA cW typ ys wy hzl (((Hid.out W11).block _ (heap_lt (Hid.out F3))).trans (Hid.out F3)) (Rd.later (Hid.out F4) (Hid.out W11)) (Rd.later (Hid.out RW) (Hid.out X11))).mono ?_
            rintro e wz ⟨rfl, bz⟩
            have BZ : Hid _ := bz
            clear bz
            have W12 : Hid (Below w9.heap.size w9 wz) := (Hid.out W11).trans ((Hid.out BZ).mono (Hid.out W11).size)
            have W13 : Hid (Below w.heap.size w wz) := (Hid.out F7).trans ((Hid.out W12).mono (Hid.out F7).size)
            go_wp2_with fail
            refine (outc27 O2 imv tbB aB oa cB oc typ ys wz hyl (((Hid.out W12).block _ (heap_lt (Hid.out F5))).trans (Hid.out F5)) (Rd.later (Hid.out F6) (Hid.out W12)) (Rd.later (Hid.out HRO) (Hid.out W13))).mono ?_
            rintro e wq ⟨rfl, bq⟩
            have W14 : Hid (Below w.heap.size w wq) := (Hid.out W13).trans (bq.mono (Hid.out W13).size)
            clear bq
            go_wp2
            go_ret
            exact ⟨rfl, Hid.out W14⟩
          | true =>
            have hz : zs = ys ++ [g.id] := Hid.out HZS
            have hzl : zs.length ≤ 4194304 := by rw [hz]; simp; omega
            have y0c := cell_later hbc y0
            have bA : Below wc.heap.size wc (wc.alloc (.cells #[.int .u32 g.id] 22)) := (Below.refl _ wc).alloc (Nat.le_refl _) _
            have HOV : Hid _ := own_later97 hov bA
            have HNW : Hid _ := World.news_of_block (heap_alloc_new wc (.cells #[.int .u32 g.id] 22))
            have HZ : Hid _ := hz
            have HBC : Hid _ := hbc
            have HBA : Hid _ := bA
            obtain ⟨i0, hi0, hzA, hzB, hzC⟩ := info_parts Try.info22
            have m1 : ys.length + 1 ≤ maxLen := by simp only [maxLen]; omega
            have m2 : (ys.length + 1) * 4 ≤ 140737488355328 := by omega
            have m3 : wr.heap.size ≤ (wc.alloc (.cells #[.int .u32 g.id] 22)).heap.size := by have := hbc.size; have := bA.size; omega
            have HM3 : Hid _ := m3
            clear hv hov hbc hz bA H24 m3
            go_upto_region 36 with (at_builtin; refine wpList_append_lies _ rfl _ _ 44 rfl wr.heap.size 22 i0 (.int .u32 0) 1 4 Try.underlying44 hi0 hzA hzB hzC rfl (by decide) v ys.length (u32s ys) rfl (Hid.out HOV) ⟨wc.heap.size, 0, none⟩ 1 1 [.int .u32 g.id] rfl rfl (Hid.out HNW) (by simp [Value.oneCell']) (by decide) m1 m2 (Hid.out HM3) (wc.heap.size + 1) (by simp) ?_; intro gn cap wn hown hgr hat hlt)
            have hrow : wn.ownsRow wr.heap.size 22 1 (.slice (some ⟨gn, 0, none⟩) (ys.length + 1) cap) (ys.length + 1) (u32s zs) := by
              rw [Hid.out HZ]; simpa [u32s] using hown
            have hzl1 : zs.length = ys.length + 1 := by rw [Hid.out HZ]; simp
            obtain ⟨aW, cW, eW, hrW, -⟩ := rd_u32 hrow hzl1.symm
            simp only [Value.slice.injEq] at eW
            obtain ⟨rfl, -, rfl⟩ := eW
            have RW : Hid _ := hrW
            have HZL : Hid _ := hzl1
            have B9 : Hid (Below wg.heap.size wg wn) := by
              have h1 := Hid.out B9c
              have h2 := Hid.out HBA
              have h3 := Hid.out HOV
              have h4 := (Hid.out HBJ).size
              exact (h1.trans (h2.mono h1.size)).grown hgr (Nat.le_trans h1.size h2.size) (fun k e => Nat.le_trans h4 (World.ownsRow.lt h3 k e).1)
            clear hrow hzl1 hrW hown hgr hat hlt HOV HNW y0c
            have WX : Hid (Below w.heap.size w wn) := (Hid.out BWG).trans ((Hid.out B9).mono (Hid.out BWG).size)
            have W9 : Hid (Below w9.heap.size w9 wn) := (Hid.out BG2).trans ((Hid.out B9).mono (Hid.out BG2).size)
            go_cut [35] (fun t W => t = .bool imv ∧ wn = W)
            case first =>
              cases im
              · by_cases hpos : 0 < more.length
                · have hpos1 : decide (0 < (more.length : Int)) = true := decide_eq_true (by omega)
                  go_wp2_with fail
                  go_meet
                  case rel => exact ⟨by rw [Hid.out HIM]; simp [hpos], rfl⟩
                · have hpos1 : decide (0 < (more.length : Int)) = false := decide_eq_false (by omega)
                  go_wp2_with fail
                  go_meet
                  case rel => exact ⟨by rw [Hid.out HIM]; simp [hpos], rfl⟩
              · go_wp2_with fail
                go_meet
                case rel => exact ⟨by rw [Hid.out HIM]; simp, rfl⟩
            case rest =>
            obtain ⟨rfl, rfl⟩ := hcut
            go_wp2_with fail
            refine (recseq25 _ _ _ _ rs _ hrle (Rd.later (Hid.out F1) (Hid.out W9)) (Rd.later (Hid.out R2') (Hid.out W9))).mono ?_
            rintro e wx ⟨rfl, bx⟩
            have BX : Hid _ := bx
            clear bx
            have W10 : Hid (Below w9.heap.size w9 wx) := (Hid.out W9).trans ((Hid.out BX).mono (Hid.out W9).size)
            go_wp2_with fail
            refine (ctrseq26 _ _ _ _ css _ hcle (Hid.out HCL4) (Rd2.later (Hid.out F2) (Hid.out W10)) (Rd2.later (Hid.out D2) (Hid.out W10))).mono ?_
            rintro e wy ⟨rfl, by_⟩
            have BY : Hid _ := by_
            clear by_
            have W11 : Hid (Below w9.heap.size w9 wy) := (Hid.out W10).trans ((Hid.out BY).mono (Hid.out W10).size)
            have X11 : Hid (Below wn.heap.size wn wy) := (Hid.out BX).trans ((Hid.out BY).mono (Hid.out BX).size)
            go_wp2_with fail
            have H27 : Hid (Calls Try.prog 27 #[.pointer (some ⟨O1, 0, none⟩), .bool imv, .slice none 0 0, .bool false, .string typ, .slice (some ⟨gn, 0, none⟩) (ys.length + 1) cap] wy fun e w' => e = .returned (.bool true) ∧ Below wy.heap.size wy w') := by
              have h := outc27 O1 imv tbA aA (some ⟨gn, 0, none⟩) cA cap typ zs wy hzl (((Hid.out W11).block _ (heap_lt (Hid.out F3))).trans (Hid.out F3)) (Rd.later (Hid.out F4) (Hid.out W11)) (Rd.later (Hid.out RW) (Hid.out X11))
              rw [Hid.out HZL] at h
              exact h
            refine Calls.mono (Hid.out H27) ?_
            rintro e wz ⟨rfl, bz⟩
            have BZ : Hid _ := bz
            clear bz
            have W12 : Hid (Below w9.heap.size w9 wz) := (Hid.out W11).trans ((Hid.out BZ).mono (Hid.out W11).size)
            have W13 : Hid (Below w.heap.size w wz) := (Hid.out F7).trans ((Hid.out W12).mono (Hid.out F7).size)
            go_wp2_with fail
            refine (outc27 O2 imv tbB aB oa cB oc typ ys wz hyl (((Hid.out W12).block _ (heap_lt (Hid.out F5))).trans (Hid.out F5)) (Rd.later (Hid.out F6) (Hid.out W12)) (Rd.later (Hid.out HRO) (Hid.out W13))).mono ?_
            rintro e wq ⟨rfl, bq⟩
            have W14 : Hid (Below w.heap.size w wq) := (Hid.out W13).trans (bq.mono (Hid.out W13).size)
            clear bq
            go_wp2
            go_ret
            exact ⟨rfl, Hid.out W14⟩
end Go.Proofs.Qxb6608902a
