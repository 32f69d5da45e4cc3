import Derived.Test.Qxb6608902aEqs
namespace Go.Proofs.Qxb6608902a
open Go.RowKit

def zero74 : Value := .agg #[.int .u32 0, .bool false, .int .u8 0, .int .u32 0, .int .i64 0, .string ⟨#[]⟩, .int .u8 0, .int .i64 0, .int .u64 0, .int .u64 0]
theorem Try.info74 : (Try.prog.info? 74).map (fun i => (i.zero, i.size, i.bytes)) = some (some zero74, 10, 72) := by kernel_rfl
theorem Try.info66 : (Try.prog.info? 66).map (fun i => (i.zero, i.size, i.bytes)) = some (some zero82, 5, 24) := by kernel_rfl
theorem Try.info48 : (Try.prog.info? 48).map (fun i => (i.zero, i.size, i.bytes)) = some (some (.slice none 0 0), 1, 24) := by kernel_rfl

theorem rcCells_get (l : List Rc) (j q : Nat) (c : Rc) (h : l[j]? = some c) (hq : q < 10) : (rcCells l)[j * 10 + q]? = c.cells[q]? := by
  induction l generalizing j with
  | nil => cases h
  | cons x l ih =>
    have hx : x.cells.length = 10 := rfl
    cases j with
    | zero =>
      obtain rfl : x = c := by simpa using h
      simp only [rcCells, List.flatMap_cons]
      rw [List.getElem?_append_left (by omega)]
      simp
    | succ j =>
      simp only [rcCells, List.flatMap_cons]
      rw [List.getElem?_append_right (by omega)]
      have e : (j + 1) * 10 + q - x.cells.length = j * 10 + q := by omega
      rw [e]
      exact ih j (by simpa using h)

theorem rd_rc {w : World} {b : Nat} {t : TypeId} {cs : Array Value} {rs : List Rc} (h : w.heap[b]? = some (.cells cs t)) (hc : ∀ (k : Nat) (v : Value), (rcCells rs)[k]? = some v → cs[k]? = some v) : Rd w (some ⟨b, 0, none⟩) 10 (rs.map Rc.cells) := by
  intro i c hi
  obtain ⟨r, hr, rfl⟩ : ∃ r, rs[i]? = some r ∧ r.cells = c := by simpa using hi
  refine ⟨b, 0, rfl, fun q v hv => ?_⟩
  have hq : q < 10 := by have := (List.getElem?_eq_some_iff.1 hv).1; simpa [Rc.cells, recCells] using this
  rw [cell_of_row _ _ _ _ _ _ h]
  apply hc
  rw [Nat.zero_add, rcCells_get rs i q r hr hq]
  exact hv
theorem rd_ct {w : World} {b : Nat} {t : TypeId} {cs : Array Value} {rs : List Ct} (h : w.heap[b]? = some (.cells cs t)) (hc : ∀ (k : Nat) (v : Value), (ctCells rs)[k]? = some v → cs[k]? = some v) : Rd w (some ⟨b, 0, none⟩) 5 (rs.map Ct.cells) := by
  intro i c hi
  obtain ⟨r, hr, rfl⟩ : ∃ r, rs[i]? = some r ∧ r.cells = c := by simpa using hi
  refine ⟨b, 0, rfl, fun q v hv => ?_⟩
  have hq : q < 5 := by have := (List.getElem?_eq_some_iff.1 hv).1; simpa [Ct.cells] using this
  rw [cell_of_row _ _ _ _ _ _ h]
  apply hc
  rw [Nat.zero_add, ctCells_get rs i q r hr hq]
  exact hv

/-- What observe reads of a session. -/
def Sees (w : World) (S : Nat) (rs : List Rc) (css : List (List Ct)) (cl : Int) : Prop :=
  ∃ (ga : Option Addr) (gc : Nat) (tv : Value) (ra : Option Addr) (rc : Nat), w.heap[S]? = some (.cells (sess (.slice ga css.length gc) tv cl (.slice ra rs.length rc)) 116) ∧ Rd w ra 10 (rs.map Rc.cells) ∧
    ∀ k cs, css[k]? = some cs → ∃ b o ca cc, ga = some ⟨b, o, none⟩ ∧ w.cell? ⟨b, o + k * 5 + 2, none⟩ = some (.slice ca cs.length cc) ∧ Rd w ca 5 (cs.map Ct.cells)

def sRow (css : List (List Ct)) (Cb : Nat → Nat) (k : Nat) : List Value := (List.range k).map fun j => match css[j]? with | some cs => .slice (some ⟨Cb j, 0, none⟩) cs.length cs.length | none => .slice none 0 0
def BtR (css : List (List Ct)) (Cb : Nat → Nat) (k : Nat) (W : World) : Prop := ∀ j cs, j < k → css[j]? = some cs → W.heap[Cb j]? = some (.cells (ctCells cs).toArray 66)

theorem sRow_upd (css : List (List Ct)) (Cb : Nat → Nat) (k C : Nat) (cs : List Ct) (h : css[k]? = some cs) : sRow css (upd Cb k C) (k + 1) = sRow css Cb k ++ [.slice (some ⟨C, 0, none⟩) cs.length cs.length] := by
  unfold sRow
  rw [List.range_succ, List.map_append]
  congr 1
  · apply List.map_congr_left
    intro j hj
    have : j < k := List.mem_range.1 hj
    rw [upd_ne _ _ (by omega)]
  · simp [h, upd_at]
theorem BtR.upd {css : List (List Ct)} {Cb : Nat → Nat} {k C : Nat} {W : World} {cs : List Ct} (h : BtR css Cb k W) (hk : css[k]? = some cs) (hC : W.heap[C]? = some (.cells (ctCells cs).toArray 66)) : BtR css (upd Cb k C) (k + 1) W := by
  intro j cs' hj hcs
  by_cases e : j = k
  · subst e
    rw [hk] at hcs; cases hcs
    rw [upd_at]; exact hC
  · rw [upd_ne _ _ e]; exact h j cs' (by omega) hcs

set_option maxRecDepth 100000 in
set_option maxHeartbeats 2000000 in
theorem obs22 (S : Nat) (rs : List Rc) (css : List (List Ct)) (cl : Int) (w : World) (hn : rs.length ≤ 4194304) (hm : css.length ≤ 4194304) (hcs : ∀ cs ∈ css, cs.length ≤ 4194304) (h : Sees w S rs css cl) :
    Calls Try.prog 22 #[.pointer (some ⟨S, 0, none⟩)] w fun e w' => ∃ A B, e = .returned (.tuple #[.slice (some ⟨A, 0, none⟩) rs.length rs.length, .slice (some ⟨B, 0, none⟩) css.length css.length, .int .i64 cl]) ∧ Rd w' (some ⟨A, 0, none⟩) 10 (rs.map Rc.cells) ∧ Rd2 w' (some ⟨B, 0, none⟩) css ∧ Below w.heap.size w w' := by
  obtain ⟨ga, gc, tv, ra, rc, hS, hR, hG⟩ := h
  obtain ⟨i7, hi7, hz70, hz71, hz72⟩ := info_parts Try.info74
  obtain ⟨i6, hi6, hz60, hz61, hz62⟩ := info_parts Try.info66
  obtain ⟨i4, hi4, hz40, hz41, hz42⟩ := info_parts Try.info48
  have HG : Hid _ := get43 S (.slice ga css.length gc) tv cl (.slice ra rs.length rc) w hS
  clear hS
  go_enter Try.func22, Try.ntmps22
  go_wp2_with fail
  refine Calls.mono (Hid.out HG) ?_
  rintro e w1 ⟨rfl, n, rfl⟩
  clear HG
  have hb0 : Below w.heap.size w (w.drewN n) := below_drewN w n
  have hsz0 : (w.drewN n).heap.size = w.heap.size := rfl
  obtain ⟨wm, hmk, hom, hgm⟩ := run_make_own (P := Try.prog) (w.drewN n) w.heap.size 43 74 i7 zero74 10 Try.underlying43 hi7 hz70 hz71 .i64 .i64 rs.length (by rw [hz72]; omega) (by unfold maxLen; omega) (Nat.le_refl _)
  generalize w.drewN n = wd at *
  go_wp2_with fail
  clear hmk
  go_loopw [8, 9] (fun o i W => ∃ j : Nat, j ≤ rs.length ∧ i = .int .i64 j ∧ o = .slice (some ⟨w.heap.size, 0, none⟩) j rs.length ∧ W.ownsRow w.heap.size 74 10 (.slice (some ⟨w.heap.size, 0, none⟩) j rs.length) j (rcCells (rs.take j)) ∧ Below w.heap.size w W) (fun _ i _ => rs.length - (intOf i).toNat)
  case atStart => rw [hsz0] at hom; exact ⟨0, Nat.zero_le _, rfl, rfl, hom, hb0.grown hgm (by omega) (fun k e => by cases e)⟩
  case round =>
    obtain ⟨j, hj, rfl, rfl, ho, hb⟩ := hrel
    clear hom hgm hb0
    by_cases hlt : j < rs.length
    · obtain ⟨p, hq⟩ : ∃ q, rs[j]? = some q := ⟨_, List.getElem?_eq_getElem hlt⟩
      obtain ⟨b', o', rfl, h2⟩ := hR j p.cells (by simp [hq])
      have h44 := get44 b' (o' + j * 10) p.a p.b p.m p.gid p.cl p.typ p.r p.d p.up p.dn wr (fun q v hv => cell_later hb (h2 q v hv))
      have d1 : (0 : Int) ≤ (j : Int) := by omega
      have d2 : (j : Int) < (rs.length : Int) := by omega
      have HSN : Hid _ := rcCells_snoc rs j p hq
      have HO : Hid _ := ho
      have HB : Hid _ := hb
      have H44 : Hid _ := h44
      clear h44 ho hb h2 hq hR hG
      go_wp2_with fail
      refine Calls.mono (Hid.out H44) ?_
      rintro e w1 ⟨rfl, n', rfl⟩
      dsimp only [recCells]
      have b3 : Below wr.heap.size wr (wr.drewN n') := below_drewN wr n'
      generalize wr.drewN n' = w1 at *
      have b4 : Below wr.heap.size wr (w1.alloc (.cells #[.int .u32 p.a, .bool p.b, .int .u8 p.m, .int .u32 p.gid, .int .i64 p.cl, .string p.typ, .int .u8 p.r, .int .i64 p.d, .int .u64 p.up, .int .u64 p.dn] 74)) := b3.alloc b3.size _
      have o4 := own_later97 (Hid.out HO) b4
      have hnew := World.news_of_block (heap_alloc_new w1 (.cells #[.int .u32 p.a, .bool p.b, .int .u8 p.m, .int .u32 p.gid, .int .i64 p.cl, .string p.typ, .int .u8 p.r, .int .i64 p.d, .int .u64 p.up, .int .u64 p.dn] 74))
      have HO4 : Hid _ := o4
      have HN4 : Hid _ := hnew
      clear o4 hnew
      go_wp2_with (at_builtin; refine wpList_append_fits _ rfl _ _ 43 rfl w.heap.size 74 i7 10 Try.underlying43 hi7 hz71 w.heap.size j rs.length (rcCells (rs.take j)) rfl (Hid.out HO4) ⟨w1.heap.size, 0, none⟩ 1 1 p.cells rfl rfl (Hid.out HN4) (by simp [Rc.cells, recCells, Value.oneCell']) hlt ?_; intro w3 o3 g3; rw [← Hid.out HSN] at o3)
      have b5 : Below w.heap.size w w3 := ((Hid.out HB).trans (b4.mono (Hid.out HB).size)).grown g3 (by have := (Hid.out HB).size; have := b4.size; omega) (fun k e => by cases e; exact Nat.le_refl _)
      go_roundw
      case rel => exact ⟨j + 1, hlt, by go_num, rfl, o3, b5⟩
      case measure => simp [intOf]; omega
    · obtain rfl : j = rs.length := by omega
      rw [List.take_length] at ho
      have hA := own_full ho
      obtain ⟨wa, rfl⟩ : ∃ W, W = wr := ⟨_, rfl⟩
      obtain ⟨wn, hmk2, hom2, hgm2⟩ := run_make_own (P := Try.prog) wa wa.heap.size 62 48 i4 (.slice none 0 0) 1 Try.underlying62 hi4 hz40 hz41 .i64 .i64 css.length (by rw [hz42]; omega) (by unfold maxLen; omega) (Nat.le_refl _)
      have HA : Hid _ := hA
      have HB : Hid _ := hb
      clear hA ho hb hR
      go_wp2_with fail
      clear hmk2
      go_loopw [20, 21] (fun o i W => ∃ (k : Nat) (Cb : Nat → Nat), k ≤ css.length ∧ i = .int .i64 k ∧ o = .slice (some ⟨wa.heap.size, 0, none⟩) k css.length ∧ W.ownsRow wa.heap.size 48 1 (.slice (some ⟨wa.heap.size, 0, none⟩) k css.length) k (sRow css Cb k) ∧ BtR css Cb k W ∧ Below wa.heap.size wa W) (fun _ i _ => css.length - (intOf i).toNat)
      case atStart => exact ⟨0, fun _ => 0, Nat.zero_le _, rfl, rfl, hom2, (fun j cs hj => by omega), (Below.refl _ _).grown hgm2 (Nat.le_refl _) (fun k e => by cases e)⟩
      case round =>
        obtain ⟨k, Cb, hk, rfl, rfl, ho, hbt, hb⟩ := hrel
        clear hom2 hgm2
        have hwa := (Hid.out HB).size
        have hbw : Below w.heap.size w wr := (Hid.out HB).trans (hb.mono hwa)
        by_cases hklt : k < css.length
        · obtain ⟨cs, hy⟩ : ∃ q, css[k]? = some q := ⟨_, List.getElem?_eq_getElem hklt⟩
          have hcl := hcs cs (List.mem_of_getElem? hy)
          obtain ⟨b', o', ca, cc, rfl, h1, h2⟩ := hG k cs hy
          have h45 := get45 b' (o' + k * 5) ca cs.length cc wr (cell_later hbw h1)
          have d1 : (0 : Int) ≤ (k : Int) := by omega
          have d2 : (k : Int) < (css.length : Int) := by omega
          obtain ⟨wo, rfl⟩ : ∃ W, W = wr := ⟨_, rfl⟩
          obtain ⟨wn, hmk3, hom3, hgm3⟩ := run_make_own (P := Try.prog) wo wo.heap.size 48 66 i6 zero82 5 Try.underlying48 hi6 hz60 hz61 .i64 .i64 cs.length (by rw [hz62]; omega) (by unfold maxLen; omega) (Nat.le_refl _)
          have H45 : Hid _ := h45
          have H2 : Hid _ := h2
          have HO : Hid _ := ho
          have HT : Hid _ := hbt
          have HB2 : Hid _ := hb
          have HW : Hid _ := hbw
          have HY : Hid _ := hy
          clear h45 h2 ho hbt hb hbw hy h1 hG
          go_wp2_with fail
          refine Calls.mono (Hid.out H45) ?_
          rintro e w1 ⟨rfl, rfl⟩
          clear H45
          go_wp2_with fail
          clear hmk3
          go_loopw [23, 24] (fun o i W => ∃ j : Nat, j ≤ cs.length ∧ i = .int .i64 j ∧ o = .slice (some ⟨wo.heap.size, 0, none⟩) j cs.length ∧ W.ownsRow wo.heap.size 66 5 (.slice (some ⟨wo.heap.size, 0, none⟩) j cs.length) j (ctCells (cs.take j)) ∧ Below wo.heap.size wo W) (fun _ i _ => cs.length - (intOf i).toNat)
          case atStart => exact ⟨0, Nat.zero_le _, rfl, rfl, hom3, (Below.refl _ _).grown hgm3 (Nat.le_refl _) (fun k e => by cases e)⟩
          case round =>
            obtain ⟨j, hj, rfl, rfl, ho, hb⟩ := hrel
            clear hom3 hgm3
            by_cases hjlt : j < cs.length
            · obtain ⟨q, hq⟩ : ∃ q, cs[j]? = some q := ⟨_, List.getElem?_eq_getElem hjlt⟩
              obtain ⟨c', p', rfl, h2⟩ := Hid.out H2 j q.cells (by simp [hq])
              have h46 := get46 c' (p' + j * 5) q wr (fun i v hv => cell_later ((Hid.out HW).trans (hb.mono (Hid.out HW).size)) (h2 i v hv))
              have d3 : (0 : Int) ≤ (j : Int) := by omega
              have d4 : (j : Int) < (cs.length : Int) := by omega
              have HSN : Hid _ := ctCells_snoc cs j q hq
              have HO3 : Hid _ := ho
              have HB3 : Hid _ := hb
              have H46 : Hid _ := h46
              clear h46 ho hb h2 hq
              go_wp2_with fail
              refine Calls.mono (Hid.out H46) ?_
              rintro e w1 ⟨rfl, n', rfl⟩
              dsimp only [Ct.cells]
              have b3 : Below wr.heap.size wr (wr.drewN n') := below_drewN wr n'
              generalize wr.drewN n' = w1 at *
              have b4 : Below wr.heap.size wr (w1.alloc (.cells #[.int .u32 q.a, .bool q.b, .int .u8 q.m, .int .u64 q.up, .int .u64 q.dn] 66)) := b3.alloc b3.size _
              have o4 := own_later97 (Hid.out HO3) b4
              have hnew := World.news_of_block (heap_alloc_new w1 (.cells #[.int .u32 q.a, .bool q.b, .int .u8 q.m, .int .u64 q.up, .int .u64 q.dn] 66))
              have HO4 : Hid _ := o4
              have HN4 : Hid _ := hnew
              clear o4 hnew
              go_wp2_with (at_builtin; refine wpList_append_fits _ rfl _ _ 48 rfl wo.heap.size 66 i6 5 Try.underlying48 hi6 hz61 wo.heap.size j cs.length (ctCells (cs.take j)) rfl (Hid.out HO4) ⟨w1.heap.size, 0, none⟩ 1 1 q.cells rfl rfl (Hid.out HN4) (by simp [Ct.cells, Value.oneCell']) hjlt ?_; intro w3 o3 g3; rw [← Hid.out HSN] at o3)
              have b5 : Below wo.heap.size wo w3 := ((Hid.out HB3).trans (b4.mono (Hid.out HB3).size)).grown g3 (by have := (Hid.out HB3).size; have := b4.size; omega) (fun k e => by cases e; exact Nat.le_refl _)
              go_roundw
              case rel => exact ⟨j + 1, hjlt, by go_num, rfl, o3, b5⟩
              case measure => simp [intOf]; omega
            · obtain rfl : j = cs.length := by omega
              rw [List.take_length] at ho
              have hC := own_full ho
              have b4 : Below wr.heap.size wr (wr.alloc (.cells #[.slice (some ⟨wo.heap.size, 0, none⟩) cs.length cs.length] 48)) := (Below.refl _ wr).alloc (Nat.le_refl _) _
              have o4 := own_later97 (own_later97 (Hid.out HO) hb) b4
              have hnew := World.news_of_block (heap_alloc_new wr (.cells #[.slice (some ⟨wo.heap.size, 0, none⟩) cs.length cs.length] 48))
              have HC : Hid _ := (b4.block _ (heap_lt hC)).trans hC
              have HB3 : Hid _ := hb
              have HO4 : Hid _ := o4
              have HN4 : Hid _ := hnew
              have hsn := sRow_upd css Cb k wo.heap.size cs (Hid.out HY)
              have HSN : Hid _ := hsn
              clear o4 hnew hC ho hb hsn
              go_wp2_with (at_builtin; refine wpList_append_fits _ rfl _ _ 62 rfl wa.heap.size 48 i4 1 Try.underlying62 hi4 hz41 wa.heap.size k css.length (sRow css Cb k) rfl (Hid.out HO4) ⟨wr.heap.size, 0, none⟩ 1 1 [.slice (some ⟨wo.heap.size, 0, none⟩) cs.length cs.length] rfl rfl (Hid.out HN4) (by simp [Value.oneCell']) hklt ?_; intro w3 o3 g3; rw [← Hid.out HSN] at o3)
              have hb2 := Hid.out HB2
              have hb3 := Hid.out HB3
              have b5 : Below wa.heap.size wa w3 := ((hb2.trans (hb3.mono hb2.size)).trans (b4.mono (by have := hb2.size; have := hb3.size; omega))).grown g3 (by have := hb2.size; have := hb3.size; have := b4.size; omega) (fun k e => by cases e; exact Nat.le_refl _)
              have k8 : ∀ (b : Nat) (xs : Array Value) (t : TypeId), (wr.alloc (.cells #[.slice (some ⟨wo.heap.size, 0, none⟩) cs.length cs.length] 48)).heap[b]? = some (.cells xs t) → t ≠ 48 → w3.heap[b]? = some (.cells xs t) := by
                intro b xs t hc ht
                refine (Turn.ofGrown g3).at hc ?_
                intro e
                obtain ⟨cs', h⟩ := own_typ (Hid.out HO4) _ rfl
                cases e
                exact neT hc h ht rfl
              have t5 : BtR css (upd Cb k wo.heap.size) (k + 1) w3 := by
                refine BtR.upd ?_ (Hid.out HY) (k8 _ _ _ (Hid.out HC) (by decide))
                intro j cs' hj hcs'
                have := Hid.out HT j cs' hj hcs'
                have h' := (hb3.block _ (heap_lt this)).trans this
                exact k8 _ _ _ ((b4.block _ (heap_lt h')).trans h') (by decide)
              have HO5 : Hid _ := o3
              have HT5 : Hid _ := t5
              clear o3 t5 k8
              go_roundw
              case rel => exact ⟨k + 1, _, hklt, by go_num, rfl, Hid.out HO5, Hid.out HT5, b5⟩
              case measure => simp [intOf]; omega
        · obtain rfl : k = css.length := by omega
          have hBk := own_full ho
          have r1 : Rd wr (some ⟨w.heap.size, 0, none⟩) 10 (rs.map Rc.cells) := (rd_rc (Hid.out HA) (fun k v h => by simpa using h)).later hb
          have r2 : Rd2 wr (some ⟨wa.heap.size, 0, none⟩) css := by
            intro k cs hk
            refine ⟨wa.heap.size, 0, some ⟨Cb k, 0, none⟩, cs.length, rfl, ?_, rd_ct (hbt k cs (List.getElem?_eq_some_iff.1 hk).1 hk) (fun k v h => by simpa using h)⟩
            rw [cell_of_row _ _ _ _ _ _ hBk]
            have hlt := (List.getElem?_eq_some_iff.1 hk).1
            have he : css[k] = cs := (List.getElem?_eq_some_iff.1 hk).2
            simp [sRow, hlt, he]
          have R1 : Hid _ := r1
          have R2 : Hid _ := r2
          have HW : Hid _ := hbw
          clear r1 r2 hbw hb hbt ho hBk hG HA HB
          go_wp2
          exact bodyPost_ret (v := .tuple #[.slice (some ⟨w.heap.size, 0, none⟩) rs.length rs.length, .slice (some ⟨wa.heap.size, 0, none⟩) css.length css.length, .int .i64 cl]) (by simp [results, Try.results22, go_sem]) rfl ⟨_, _, rfl, Hid.out R1, Hid.out R2, Hid.out HW⟩
end Go.Proofs.Qxb6608902a
