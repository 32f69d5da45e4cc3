import Derived.Test.Qxb6608695aDec
import Derived.Deep.RegionWith
namespace Go.Proofs.Qxb6608695a
open Go.RowKit

set_option maxHeartbeats 400000 in
theorem bytes9 (a : Option Addr) (l c : Nat) (G1 G2 G3 G4 : Array Value) (w : World) (hl : l ≤ 9223372036854775807) :
    Calls Try.prog 9 #[.slice a l c, .agg G1, .agg G2, .agg G3, .agg G4] w fun e w' => e = .returned (.bool (decide (l ≤ 1048576))) ∧ Below w.heap.size w w' := by
  by_cases h : l ≤ 1048576
  · have e : decide (l ≤ 1048576) = true := by simpa using h
    rw [e]
    clear e
    go_enter Try.func9, Try.ntmps9
    go_wp2
    go_ret
    exact ⟨rfl, ((((Below.refl _ _).alloc (by simp) _).alloc (by simp) _).alloc (by simp; omega) _).alloc (by simp; omega) _⟩
  · have e : decide (l ≤ 1048576) = false := by simpa using h
    rw [e]
    clear e
    go_enter Try.func9, Try.ntmps9
    go_wp2
    go_ret
    exact ⟨rfl, ((((Below.refl _ _).alloc (by simp) _).alloc (by simp) _).alloc (by simp; omega) _).alloc (by simp; omega) _⟩

/-- The four boxes of the law's arrays. -/
structure Boxes (w0 w : World) (G1 G2 G3 G4 : Array Value) : Prop where
  b1 : w.heap[w0.heap.size]? = some (.cells G1 23)
  b2 : w.heap[w0.heap.size + 1]? = some (.cells G2 24)
  b3 : w.heap[w0.heap.size + 2]? = some (.cells G3 23)
  b4 : w.heap[w0.heap.size + 3]? = some (.cells G4 24)
  below : Below w0.heap.size w0 w
  size : w0.heap.size + 4 ≤ w.heap.size

theorem boxes_new (w : World) (G1 G2 G3 G4 : Array Value) : Boxes w ((((w.alloc (.cells G1 23)).alloc (.cells G2 24)).alloc (.cells G3 23)).alloc (.cells G4 24)) G1 G2 G3 G4 := by
  refine ⟨?_, ?_, ?_, ?_, ((((Below.refl _ _).alloc (by simp) _).alloc (by simp) _).alloc (by simp; omega) _).alloc (by simp; omega) _, by simp⟩
  all_goals
    show ((((w.heap.push _).push _).push _).push _)[_]? = _
    simp only [Array.getElem?_push, Array.size_push]
    repeat (first | rw [if_pos trivial] | rw [if_pos (by omega)] | rw [if_neg (by omega)])

theorem Boxes.later {w0 w w' : World} {G1 G2 G3 G4 : Array Value} (h : Boxes w0 w G1 G2 G3 G4) (hb : Below (w0.heap.size + 4) w w') : Boxes w0 w' G1 G2 G3 G4 :=
  ⟨(hb.block _ (by omega)).trans h.b1, (hb.block _ (by omega)).trans h.b2, (hb.block _ (by omega)).trans h.b3, (hb.block _ (by omega)).trans h.b4, h.below.trans (hb.mono (by omega)), Nat.le_trans h.size hb.size⟩

set_option maxRecDepth 100000 in
set_option maxHeartbeats 1000000 in
theorem law3_main (a : Option Addr) (l c : Nat) (zs A B C D : List Int) (w : World) (hz : zs.length = l) (hm : l ≤ 1048576) (hc0 : a = none → c = 0) (hbd : Bd w a zs) (hA : A.length = 20) (hB : B.length = 32) (hC : C.length = 20) (hD : D.length = 32) :
    Calls Try.prog 3 #[.slice a l c, .agg (bytesOf A).toArray, .agg (bytesOf B).toArray, .agg (bytesOf C).toArray, .agg (bytesOf D).toArray] w fun e w' => e = .returned (.bool true) ∧ Below w.heap.size w w' := by
  have sA : (bytesOf A).toArray.size = 20 := by simp [length_bytesOf, hA]
  have sB : (bytesOf B).toArray.size = 32 := by simp [length_bytesOf, hB]
  have sC : (bytesOf C).toArray.size = 20 := by simp [length_bytesOf, hC]
  have sD : (bytesOf D).toArray.size = 32 := by simp [length_bytesOf, hD]
  have iA : (Try.prog.info? 23).map (·.size) = some (bytesOf A).toArray.size := by rw [Try.size23, sA]
  have iB : (Try.prog.info? 24).map (·.size) = some (bytesOf B).toArray.size := by rw [Try.size24, sB]
  have iC : (Try.prog.info? 23).map (·.size) = some (bytesOf C).toArray.size := by rw [Try.size23, sC]
  have iD : (Try.prog.info? 24).map (·.size) = some (bytesOf D).toArray.size := by rw [Try.size24, sD]
  have av1 := av_says A B hA hB
  have av2 := av_says C D hC hD
  generalize h1' : (bytesOf A).toArray = GA at *
  generalize h2' : (bytesOf B).toArray = GB at *
  generalize h3' : (bytesOf C).toArray = GC at *
  generalize h4' : (bytesOf D).toArray = GD at *
  have H1 : Hid _ := h1'; have H2 : Hid _ := h2'; have H3 : Hid _ := h3'; have H4 : Hid _ := h4'
  clear h1' h2' h3' h4'
  obtain ⟨k1, k2, k3, k4, kb, ks⟩ := boxes_new w GA GB GC GD
  have h9 := bytes9 a l c GA GB GC GD ((((w.alloc (.cells GA 23)).alloc (.cells GB 24)).alloc (.cells GC 23)).alloc (.cells GD 24)) (by omega)
  rw [decide_eq_true hm] at h9
  have H9 : Hid _ := h9
  clear h9
  go_enter Try.func3, Try.ntmps3
  go_wp2_with (first
    | (refine wpList_load_row rfl 23 (.tmp 6) rfl w.heap.size rfl 23 GA (0, 0) _ k1 Try.underlying23 rfl iA ?_)
    | (refine wpList_load_row rfl 24 (.tmp 7) rfl (w.heap.size + 1) rfl 24 GB (0, 0) _ k2 Try.underlying24 rfl iB ?_)
    | (refine wpList_load_row rfl 23 (.tmp 8) rfl (w.heap.size + 2) rfl 23 GC (0, 0) _ k3 Try.underlying23 rfl iC ?_)
    | (refine wpList_load_row rfl 24 (.tmp 9) rfl (w.heap.size + 3) rfl 24 GD (0, 0) _ k4 Try.underlying24 rfl iD ?_))
  refine Calls.mono H9.out ?_
  rintro e w1 ⟨rfl, hw1'⟩
  have B1 : Boxes w w1 GA GB GC GD := (boxes_new w GA GB GC GD).later (hw1'.mono (by simp))
  clear H9 hw1' k1 k2 k3 k4 kb ks
  go_wp2_with fail
  refine (clone_own (w.heap.size + 4) a l c zs w1 hz hm B1.size hc0 (hbd.later B1.below)).mono ?_
  rintro e w2 ⟨a1, rfl, own1, hb2, fr1⟩
  have B2 := B1.later (hb2.mono B1.size)
  clear hbd hc0 B1
  go_wp2_with fail
  refine (clone_own (w.heap.size + 4) a1 l l zs w2 hz hm B2.size (own_nil own1) (bd_of_own own1).1).mono ?_
  rintro e w3 ⟨a2, rfl, own2, hb3, fr2⟩
  have B3 := B2.later (hb3.mono B2.size)
  have own1' := own_later own1 hb3
  have hs3 := hb3.size
  have f1 : ∀ j, (Value.slice a1 l l).ownBlock = some j → j < w2.heap.size := fun j hj => (own1.lt j hj).2
  have f1' : ∀ j, (Value.slice a1 l l).ownBlock = some j → w.heap.size + 4 ≤ j := fun j hj => (own1.lt j hj).1
  have f2 : ∀ j, (Value.slice a2 l l).ownBlock = some j → j < w3.heap.size := fun j hj => (own2.lt j hj).2
  clear own1 B2 hb3 hb2 fr1
  go_wp2_with (first
    | (refine wpList_load_row rfl 23 (.tmp 6) rfl w.heap.size rfl 23 GA (0, 0) _ B3.b1 Try.underlying23 rfl iA ?_)
    | (refine wpList_load_row rfl 24 (.tmp 7) rfl (w.heap.size + 1) rfl 24 GB (0, 0) _ B3.b2 Try.underlying24 rfl iB ?_)
    | (refine wpList_build34 rfl (.tmp 31) (.tmp 32) rfl GA GB rfl rfl sA sB ?_))
  refine (av1 (w.heap.size + 4) l _ (bytesOf zs) _ own1' (by omega) B3.size).mono ?_
  rintro e w4 ⟨g4, c4, rfl, own4, gr4, at4⟩
  have hs4 := gr4.size
  have own2' := own2.kept gr4 (by
    refine Classical.or_iff_not_imp_left.2 fun hne e => ?_
    obtain ⟨j, hj⟩ := Option.ne_none_iff_exists'.1 hne
    have := fr2 _ hj; rw [hj] at e; have := f1 _ e.symm; omega)
  have B4 : Boxes w w4 GA GB GC GD := B3.later ((Below.refl _ _).grown gr4 B3.size f1')
  have f4 : g4 < w2.heap.size ∨ w3.heap.size ≤ g4 := by rcases at4 with h | h; exact .inl (f1 _ h); exact .inr h
  clear own1' own2 gr4 at4 B3 f1 f1'
  go_wp2_with (first
    | (refine wpList_load_row rfl 23 (.tmp 8) rfl (w.heap.size + 2) rfl 23 GC (0, 0) _ B4.b3 Try.underlying23 rfl iC ?_)
    | (refine wpList_load_row rfl 24 (.tmp 9) rfl (w.heap.size + 3) rfl 24 GD (0, 0) _ B4.b4 Try.underlying24 rfl iD ?_)
    | (refine wpList_build34 rfl (.tmp 41) (.tmp 42) rfl GC GD rfl rfl sC sD ?_))
  refine (av2 (w.heap.size + 4) (l + 52) _ _ _ own4 (by omega) B4.size).mono ?_
  rintro e w5 ⟨g5, c5, rfl, own5, gr5, at5⟩
  have own2'' := own2'.kept gr5 (by
    refine Classical.or_iff_not_imp_left.2 fun hne e => ?_
    obtain ⟨j, hj⟩ := Option.ne_none_iff_exists'.1 hne
    have h1 := fr2 _ hj; have h2 := f2 _ hj; rw [hj] at e; cases e; have h3 : w2.heap.size ≤ g4 := h1; have h4 : g4 < w3.heap.size := h2; omega)
  have B5 : Boxes w w5 GA GB GC GD := B4.later ((Below.refl _ _).grown gr5 B4.size (fun j hj => (own4.lt j hj).1))
  clear own4 own2' gr5 at5 B4 f4 f2 fr2 hs3 hs4
  have eZ : bytesOf zs ++ (bytesOf A ++ bytesOf B) ++ (bytesOf C ++ bytesOf D) = bytesOf (zs ++ (A ++ (B ++ (C ++ D)))) := by simp [bytesOf]
  rw [eZ] at own5
  clear eZ av1 av2 iA iB iC iD sA sB sC sD
  have bO := (bd_of_own own2'').1
  have b5 := (bd_of_own own5).1
  have b5l := (bd_of_own own5).2
  have b5c := own_cap own5
  have y1 : Bd w5 (some ⟨w.heap.size, 0, none⟩) A := bd_of_block (by rw [H1.out]; exact B5.b1)
  have y2 : Bd w5 (some ⟨w.heap.size + 1, 0, none⟩) B := bd_of_block (by rw [H2.out]; exact B5.b2)
  have y3 : Bd w5 (some ⟨w.heap.size + 2, 0, none⟩) C := bd_of_block (by rw [H3.out]; exact B5.b3)
  have y4 : Bd w5 (some ⟨w.heap.size + 3, 0, none⟩) D := bd_of_block (by rw [H4.out]; exact B5.b4)
  have bel5 := B5.below
  clear own2'' own5 B5 H1 H2 H3 H4
  have z1 : (zs ++ (A ++ (B ++ (C ++ D)))).take l = zs := by rw [List.take_append_of_le_length (by omega), List.take_of_length_le (by omega)]
  have z2 : (zs ++ (A ++ (B ++ (C ++ D)))).drop l = A ++ (B ++ (C ++ D)) := by rw [List.drop_append_of_le_length (by omega), List.drop_of_length_le (by omega)]; rfl
  have Z1 : Hid _ := z1
  have Z2 : Hid _ := z2
  clear z1 z2
  go_wp2_with fail
  refine (new_dec _ (l + 52 + 52) c5 _ w5 b5l b5c.1 b5c.2 b5).mono ?_
  rintro e w6 ⟨rfl, d6⟩
  clear b5 b5c
  go_wp2_with fail
  refine (dec_take14 w5 w6 _ l d6 (by omega)).mono ?_
  rintro e w7 ⟨at7, ct7, rfl, bt7, d7⟩
  rw [Z1.out] at bt7
  rw [Z2.out] at d7
  clear d6 Z1 Z2 b5l
  go_wp2_with fail
  refine (same_bd w5 w7 at7 a2 l ct7 l zs hz (by omega) bt7 bO d7.below).mono ?_
  rintro e w8 ⟨rfl, n8, rfl⟩
  have d8 := d7.drewN n8
  clear d7 bt7 bO hz
  go_upto_region 16 with fail
  go_cut [62] (fun t wr => t = .bool false ∧ Dec w5 wr (B ++ (C ++ D)) .nilIface)
  case first =>
    have dd := d8.drew
    go_region_with (first
      | (go_at_call 14; refine (dec_pre w5 _ A (B ++ (C ++ D)) 20 20 rfl hA (by first | exact d8 | exact dd)).mono ?_; rintro e w9 ⟨at9, ct9, rfl, bt9, d9⟩)
      | (go_at_call 13; refine (same_bd w5 _ at9 (some ⟨w.heap.size, 0, none⟩) 20 ct9 20 A hA (by omega) bt9 y1 d9.below).mono ?_; rintro e w10 ⟨rfl, n10, rfl⟩))
    all_goals (go_wp2_with fail)
    all_goals go_meet
    case rel => exact ⟨rfl, d9.drewN n10⟩
  case rest =>
  obtain ⟨rfl, d11⟩ := hcut
  clear d8
  go_upto_region 18 with fail
  go_cut [67] (fun t wr => t = .bool false ∧ Dec w5 wr (C ++ D) .nilIface)
  case first =>
    have dd := d11.drew
    go_region_with (first
      | (go_at_call 14; refine (dec_pre w5 _ B (C ++ D) 32 32 rfl hB (by first | exact d11 | exact dd)).mono ?_; rintro e w9 ⟨at9, ct9, rfl, bt9, d9⟩)
      | (go_at_call 13; refine (same_bd w5 _ at9 (some ⟨w.heap.size + 1, 0, none⟩) 32 ct9 32 B hB (by omega) bt9 y2 d9.below).mono ?_; rintro e w10 ⟨rfl, n10, rfl⟩))
    all_goals (go_wp2_with fail)
    all_goals go_meet
    case rel => exact ⟨rfl, d9.drewN n10⟩
  case rest =>
  obtain ⟨rfl, d12⟩ := hcut
  clear d11
  go_upto_region 20 with fail
  go_cut [72] (fun t wr => t = .bool false ∧ Dec w5 wr D .nilIface)
  case first =>
    have dd := d12.drew
    go_region_with (first
      | (go_at_call 14; refine (dec_pre w5 _ C (D) 20 20 rfl hC (by first | exact d12 | exact dd)).mono ?_; rintro e w9 ⟨at9, ct9, rfl, bt9, d9⟩)
      | (go_at_call 13; refine (same_bd w5 _ at9 (some ⟨w.heap.size + 2, 0, none⟩) 20 ct9 20 C hC (by omega) bt9 y3 d9.below).mono ?_; rintro e w10 ⟨rfl, n10, rfl⟩))
    all_goals (go_wp2_with fail)
    all_goals go_meet
    case rel => exact ⟨rfl, d9.drewN n10⟩
  case rest =>
  obtain ⟨rfl, d13⟩ := hcut
  clear d12
  have d13' : Dec w5 wc (D ++ []) .nilIface := by simpa using d13
  go_upto_region 22 with fail
  go_cut [77] (fun t wr => t = .bool false ∧ Dec w5 wr ([]) .nilIface)
  case first =>
    have dd := d13'.drew
    go_region_with (first
      | (go_at_call 14; refine (dec_pre w5 _ D ([]) 32 32 rfl hD (by first | exact d13' | exact dd)).mono ?_; rintro e w9 ⟨at9, ct9, rfl, bt9, d9⟩)
      | (go_at_call 13; refine (same_bd w5 _ at9 (some ⟨w.heap.size + 3, 0, none⟩) 32 ct9 32 D hD (by omega) bt9 y4 d9.below).mono ?_; rintro e w10 ⟨rfl, n10, rfl⟩))
    all_goals (go_wp2_with fail)
    all_goals go_meet
    case rel => exact ⟨rfl, d9.drewN n10⟩
  case rest =>
  obtain ⟨rfl, d14⟩ := hcut
  clear d13'
  go_wp2_with fail
  refine (dec_err w5 _ _ _ d14).mono ?_
  rintro e w15 ⟨rfl, rfl⟩
  go_wp2_with fail
  refine (dec_rest w5 _ _ _ d14).mono ?_
  rintro e w16 ⟨a16, c16, rfl, -, rfl⟩
  go_wp2
  go_ret
  exact ⟨rfl, bel5.trans (d14.below.mono bel5.size)⟩

set_option maxRecDepth 100000 in
set_option maxHeartbeats 400000 in
theorem law3_long (a : Option Addr) (l c : Nat) (GA GB GC GD : Array Value) (w : World) (hm : ¬ l ≤ 1048576) (hl : l ≤ 9223372036854775807)
    (iA : (Try.prog.info? 23).map (·.size) = some GA.size) (iB : (Try.prog.info? 24).map (·.size) = some GB.size) (iC : (Try.prog.info? 23).map (·.size) = some GC.size) (iD : (Try.prog.info? 24).map (·.size) = some GD.size) :
    Calls Try.prog 3 #[.slice a l c, .agg GA, .agg GB, .agg GC, .agg GD] w fun e w' => e = .returned (.bool true) ∧ Below w.heap.size w w' := by
  obtain ⟨k1, k2, k3, k4, kb, ks⟩ := boxes_new w GA GB GC GD
  have h9 := bytes9 a l c GA GB GC GD ((((w.alloc (.cells GA 23)).alloc (.cells GB 24)).alloc (.cells GC 23)).alloc (.cells GD 24)) hl
  rw [decide_eq_false hm] at h9
  have H9 : Hid _ := h9
  have KB : Hid _ := kb
  clear h9 kb
  go_enter Try.func3, Try.ntmps3
  go_wp2_with (first
    | (refine wpList_load_row rfl 23 (.tmp 6) rfl w.heap.size rfl 23 GA (0, 0) _ k1 Try.underlying23 rfl iA ?_)
    | (refine wpList_load_row rfl 24 (.tmp 7) rfl (w.heap.size + 1) rfl 24 GB (0, 0) _ k2 Try.underlying24 rfl iB ?_)
    | (refine wpList_load_row rfl 23 (.tmp 8) rfl (w.heap.size + 2) rfl 23 GC (0, 0) _ k3 Try.underlying23 rfl iC ?_)
    | (refine wpList_load_row rfl 24 (.tmp 9) rfl (w.heap.size + 3) rfl 24 GD (0, 0) _ k4 Try.underlying24 rfl iD ?_))
  refine Calls.mono H9.out ?_
  rintro e w1 ⟨rfl, hw1⟩
  go_wp2
  go_ret
  exact ⟨rfl, (Hid.out KB).trans (hw1.mono (by simp; omega))⟩

theorem law3 (a : Option Addr) (l c : Nat) (zs A B C D : List Int) (w : World) (hz : zs.length = l) (hl : l ≤ 9223372036854775807) (hc0 : a = none → c = 0) (hbd : Bd w a zs) (hA : A.length = 20) (hB : B.length = 32) (hC : C.length = 20) (hD : D.length = 32) :
    Calls Try.prog 3 #[.slice a l c, .agg (bytesOf A).toArray, .agg (bytesOf B).toArray, .agg (bytesOf C).toArray, .agg (bytesOf D).toArray] w fun e w' => e = .returned (.bool true) ∧ Below w.heap.size w w' := by
  by_cases hm : l ≤ 1048576
  · exact law3_main a l c zs A B C D w hz hm hc0 hbd hA hB hC hD
  · exact law3_long a l c _ _ _ _ w hm hl (by rw [Try.size23]; simp [length_bytesOf, hA]) (by rw [Try.size24]; simp [length_bytesOf, hB]) (by rw [Try.size23]; simp [length_bytesOf, hC]) (by rw [Try.size24]; simp [length_bytesOf, hD])
end Go.Proofs.Qxb6608695a
