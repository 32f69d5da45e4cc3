import Derived.Test.Qxb6608695aBase
namespace Go.Proofs.Qxb6608695a
open Go.RowKit
theorem row_cells {l k gw cw gp cp base : Nat} {a2 : Option Addr} {zs A B : List Int} {w7 : World} (hz : zs.length = l) (hk : k ≤ l) (hA : A.length = 20) (hB : B.length = 32)
    (h2 : w7.ownsRow base 5 1 (.slice a2 l l) l (bytesOf zs))
    (hW : w7.ownsRow base 5 1 (.slice (some ⟨gw, 0, none⟩) (l + 52) cw) (l + 52) (bytesOf zs ++ (bytesOf A ++ bytesOf B)))
    (hP : w7.ownsRow base 5 1 (.slice (some ⟨gp, 0, none⟩) (l - k + 52) cp) (l - k + 52) (bytesOf (zs.drop k) ++ (bytesOf A ++ bytesOf B))) :
    ∃ Z : List Int, (∀ i, i < l + 52 → w7.cell? ⟨gw, i, none⟩ = some (.int .u8 (Z.getD i 0))) ∧ (∀ i, i < l - k + 52 → w7.cell? ⟨gp, i, none⟩ = some (.int .u8 (Z.getD (k + i) 0))) ∧
        (0 < l → ∃ g2, a2 = some ⟨g2, 0, none⟩ ∧ ∀ i, i < l → w7.cell? ⟨g2, i, none⟩ = some (.int .u8 (Z.getD i 0))) := by
  have e1 : bytesOf zs ++ (bytesOf A ++ bytesOf B) = bytesOf (zs ++ (A ++ B)) := by simp [bytesOf]
  have e2 : bytesOf (zs.drop k) ++ (bytesOf A ++ bytesOf B) = bytesOf ((zs ++ (A ++ B)).drop k) := by
    rw [List.drop_append_of_le_length (by omega)]; simp [bytesOf]
  rw [e1] at hW
  rw [e2] at hP
  refine ⟨zs ++ (A ++ B), fun i hi => ?_, fun i hi => ?_, fun h0 => ?_⟩
  · obtain ⟨x, hx, hc⟩ := (bd_of_own hW).1 i (by simp; omega)
    cases hx
    rw [addr_add_none, Nat.zero_add] at hc
    exact hc
  · obtain ⟨x, hx, hc⟩ := (bd_of_own hP).1 i (by simp; omega)
    cases hx
    rw [addr_add_none, Nat.zero_add] at hc
    rw [hc]
    simp
  · obtain ⟨g2, c2, hv⟩ := own_form h2 h0
    cases hv
    refine ⟨g2, rfl, fun i hi => ?_⟩
    obtain ⟨x, hx, hc⟩ := (bd_of_own h2).1 i (by omega)
    cases hx
    rw [addr_add_none, Nat.zero_add] at hc
    rw [hc]
    simp [List.getElem?_append_left (show i < zs.length by omega)]

set_option maxRecDepth 100000 in
set_option maxHeartbeats 400000 in
theorem law4_main (a : Option Addr) (l c k : Nat) (zs A B : List Int) (w : World) (hz : zs.length = l) (hm : l ≤ 1048576) (hk : k ≤ l) (hc0 : a = none → c = 0) (hbd : Bd w a zs) (hA : A.length = 20) (hB : B.length = 32) :
    Calls Try.prog 4 #[.slice a l c, .int .i64 k, .agg (bytesOf A).toArray, .agg (bytesOf B).toArray] w fun e w' => e = .returned (.bool true) ∧ Below w.heap.size w w' := by
  have hGA : (Try.prog.info? 23).map (·.size) = some (bytesOf A).toArray.size := by rw [Try.size23]; simp [length_bytesOf, hA]
  have hGB : (Try.prog.info? 24).map (·.size) = some (bytesOf B).toArray.size := by rw [Try.size24]; simp [length_bytesOf, hB]
  have hsA : (bytesOf A).toArray.size = 20 := by simp [length_bytesOf, hA]
  have hsB : (bytesOf B).toArray.size = 32 := by simp [length_bytesOf, hB]
  have hs34 : (Try.prog.info? 34).map (·.size) = some ((bytesOf A).toArray ++ (bytesOf B).toArray).size := by rw [Try.size34]; simp [length_bytesOf, hA, hB]
  have h52 : ((bytesOf A).toArray ++ (bytesOf B).toArray).size = 52 := by simp [length_bytesOf, hA, hB]
  have hone : ((bytesOf A).toArray ++ (bytesOf B).toArray).all (·.oneCell') = true := by
    rw [Array.all_eq_true_iff_forall_mem]; intro u hu; simp at hu; rcases hu with hu | hu; exact bytesOf_one _ _ hu; exact bytesOf_one _ _ hu
  have hC := av_says A B hA hB
  generalize hA' : (bytesOf A).toArray = GA at *
  generalize hB' : (bytesOf B).toArray = GB at *
  have HA : Hid _ := hA'; have HB : Hid _ := hB'
  clear hA' hB'
  have hw0 : ((w.alloc (.cells GA 23)).alloc (.cells GB 24)).heap[w.heap.size]? = some (.cells GA 23) := heap_alloc2_old w _ _
  have hw1 : ((w.alloc (.cells GA 23)).alloc (.cells GB 24)).heap[w.heap.size + 1]? = some (.cells GB 24) := heap_alloc2_new w _ _
  have h17 := bytes17 a l c k GA GB ((w.alloc (.cells GA 23)).alloc (.cells GB 24)) (by omega)
  rw [decide_eq_true hm] at h17
  have H17 : Hid _ := h17
  clear h17
  go_enter Try.func4, Try.ntmps4
  go_wp2_with (first
    | (refine wpList_load_row rfl 23 (.tmp 6) rfl w.heap.size rfl 23 GA (0, 0) _ hw0 Try.underlying23 rfl hGA ?_)
    | (refine wpList_load_row rfl 24 (.tmp 7) rfl (w.heap.size + 1) rfl 24 GB (0, 0) _ hw1 Try.underlying24 rfl hGB ?_))
  refine Calls.mono H17.out ?_
  rintro e w1 ⟨rfl, hw1'⟩
  have hB1 : Below (w.heap.size + 2) ((w.alloc (.cells GA 23)).alloc (.cells GB 24)) w1 := by
    rw [hw1']; exact ((Below.refl _ _).alloc (by simp) _).alloc (by simp) _
  have g0 : w1.heap[w.heap.size]? = some (.cells GA 23) := (hB1.block _ (by omega)).trans hw0
  have g1 : w1.heap[w.heap.size + 1]? = some (.cells GB 24) := (hB1.block _ (by omega)).trans hw1
  have hB2 : Below w.heap.size w w1 := (((Below.refl _ _).alloc (by simp) _).alloc (by simp) _).trans (hB1.mono (by omega))
  have hs1 : w.heap.size + 2 ≤ w1.heap.size := by have := hB1.size; simp at this; omega
  clear hw1' hB1 hw0 hw1
  clear H17
  go_wp2_with fail
  refine (clone_own (w.heap.size + 2) a l c zs w1 hz hm hs1 hc0 (hbd.later hB2)).mono ?_
  rintro e w2 ⟨a1, rfl, own1, hb2, fr1⟩
  have hs2 := hb2.size
  clear hbd hc0
  go_wp2_with fail
  refine (clone_own (w.heap.size + 2) a1 l l zs w2 hz hm (by omega) (own_nil own1) (bd_of_own own1).1).mono ?_
  rintro e w3 ⟨a2, rfl, own2, hb3, fr2⟩
  have own1' := own_later own1 hb3
  have f1 : ∀ j, (Value.slice a1 l l).ownBlock = some j → j < w2.heap.size := fun j hj => (own1.lt j hj).2
  have f2 : ∀ j, (Value.slice a2 l l).ownBlock = some j → j < w3.heap.size := fun j hj => (own2.lt j hj).2
  have hs3 := hb3.size
  clear own1
  have kb3 : Below (w.heap.size + 2) w1 w3 := (hb2.mono hs1).trans (hb3.mono (by omega))
  clear fr1 hb2
  go_upto_region 9 with fail
  go_cut [10] (fun t wr => ∃ a3, t = .slice a3 (l - k) (l - k) ∧ wr.ownsRow (w.heap.size + 2) 5 1 (.slice a3 (l - k) (l - k)) (l - k) (bytesOf (zs.drop k)) ∧ Below w3.heap.size w3 wr ∧ (∀ j, (Value.slice a3 (l - k) (l - k)).ownBlock = some j → w3.heap.size ≤ j))
  case first =>
    by_cases hkl : l = k
    · subst hkl
      go_wp2_with fail
      refine (clone_own (w.heap.size + 2) a2 0 0 [] w3 rfl (by omega) (by omega) (fun _ => rfl) (Bd.nil _ _)).mono ?_
      rintro e w4 ⟨a3, rfl, own3, hb4, fr3⟩
      go_wp2
      go_meet
      case rel =>
        rw [Nat.sub_self]
        exact ⟨a3, rfl, by rw [List.drop_of_length_le (by omega)]; exact own3, hb4, fr3⟩
    · go_wp2_with fail
      refine (clone_own (w.heap.size + 2) _ (l - k) (l - k) (zs.drop k) w3 (by simp [hz]) (by omega) (by omega) (fun h => ?_) ((bd_of_own own2).1.drop k)).mono ?_
      · have := own_nil own2 (by simpa using h); omega
      rintro e w4 ⟨a3, rfl, own3, hb4, fr3⟩
      go_wp2
      go_meet
      case rel => exact ⟨a3, rfl, own3, hb4, fr3⟩
  case rest =>
    obtain ⟨a3, rfl, own3, hb4, fr3⟩ := hcut
    have kb4 : Below (w.heap.size + 2) w1 wc := kb3.trans (hb4.mono (by omega))
    have gc0 : wc.heap[w.heap.size]? = some (.cells GA 23) := (kb4.block _ (by omega)).trans g0
    have gc1 : wc.heap[w.heap.size + 1]? = some (.cells GB 24) := (kb4.block _ (by omega)).trans g1
    go_wp2_with (first
      | (refine wpList_load_row rfl 23 (.tmp 6) rfl w.heap.size rfl 23 GA (0, 0) _ gc0 Try.underlying23 rfl hGA ?_)
      | (refine wpList_load_row rfl 24 (.tmp 7) rfl (w.heap.size + 1) rfl 24 GB (0, 0) _ gc1 Try.underlying24 rfl hGB ?_)
      | (refine wpList_build34 rfl (.tmp 43) (.tmp 44) rfl GA GB rfl rfl hsA hsB ?_)
      | (refine wpList_store34 rfl (.tmp 11) (.tmp 45) rfl (GA ++ GB) _ rfl rfl h52 rfl hone ?_)
      | (refine wpList_load_row rfl 34 (.tmp 11) rfl wc.heap.size rfl 34 (GA ++ GB) (0, 0) _ (heap_alloc_new _ _) Try.underlying34 rfl hs34 ?_))
    have hs4 := hb4.size
    have f3 : ∀ j, (Value.slice a3 (l - k) (l - k)).ownBlock = some j → j < wc.heap.size := fun j hj => (own3.lt j hj).2
    refine (hC (w.heap.size + 2) l _ (bytesOf zs) _ ((own_later own1' hb4).alloc _) (by omega) (by simp; omega)).mono ?_
    rintro e w6 ⟨gw, cw, rfl, ownW, gW, atW⟩
    have hs6 : wc.heap.size + 1 ≤ w6.heap.size := by have := gW.size; simp at this; omega
    have g6 : w6.heap[wc.heap.size]? = some (.cells (GA ++ GB) 34) := (gW.block _ (by simp) (fun e => by have := f1 _ e.symm; omega)).trans (heap_alloc_new _ _)
    have own2' := ((own_later own2 hb4).alloc _).kept gW (by
      refine Classical.or_iff_not_imp_left.2 fun hne e => ?_
      obtain ⟨j, hj⟩ := Option.ne_none_iff_exists'.1 hne
      have := fr2 _ hj; rw [hj] at e; have := f1 _ e.symm; omega)
    have own3' := (own3.alloc _).kept gW (by
      refine Classical.or_iff_not_imp_left.2 fun hne e => ?_
      obtain ⟨j, hj⟩ := Option.ne_none_iff_exists'.1 hne
      have := fr3 _ hj; rw [hj] at e; have := f1 _ e.symm; omega)
    have bw6 : Below w.heap.size w w6 := by
      refine ((hB2.trans (kb4.mono (by omega))).alloc (by omega) _).grown gW (by simp; omega) (fun j hj => ?_)
      have := ((own_later own1' hb4).lt j hj).1; omega
    have aw6 : gw < w2.heap.size ∨ wc.heap.size < gw := by
      rcases atW with h | h
      · exact .inl (f1 _ h)
      · simp at h; exact .inr (by omega)
    clear own1' own2 own3 gW atW kb3 kb4 gc0 gc1 g0 g1 hb3 hb4 hB2
    go_wp2_with (first
      | (refine wpList_load_row rfl 34 (.tmp 11) rfl wc.heap.size rfl 34 (GA ++ GB) (0, 0) _ g6 Try.underlying34 rfl hs34 ?_))
    refine (hC (w.heap.size + 2) (l - k) _ (bytesOf (zs.drop k)) _ own3' (by omega) (by omega)).mono ?_
    rintro e w7 ⟨gp, cp, rfl, ownP, gP, atP⟩
    have hs7 := gP.size
    have own2'' := own2'.kept gP (by
      refine Classical.or_iff_not_imp_left.2 fun hne e => ?_
      obtain ⟨j, hj⟩ := Option.ne_none_iff_exists'.1 hne
      have := f2 _ hj; rw [hj] at e; have := fr3 _ e.symm; omega)
    have ownW' := ownW.kept gP (.inr fun e => by
      have h1 := fr3 gw (by rw [← e]; rfl); have h2 := f3 gw (by rw [← e]; rfl); omega)
    have bw7 : Below w.heap.size w w7 := bw6.grown gP (by omega) (fun j hj => by have := (own3'.lt j hj).1; omega)
    clear own2' own3' ownW gP atP bw6 aw6 f1 f2 f3 fr2 fr3 g6 hs6 hs7
    have e1 : (((l + 52 : Nat) : Int) != (l : Int) + 52) = false := by rw [bne_eq_false_iff_eq]; omega
    have e2 : (((l - k + 52 : Nat) : Int) != (l : Int) - (k : Int) + 52) = false := by rw [bne_eq_false_iff_eq]; omega
    go_wp2
    obtain ⟨Z, hZW, hZP, hZO⟩ : ∃ Z : List Int, (∀ i, i < l + 52 → w7.cell? ⟨gw, i, none⟩ = some (.int .u8 (Z.getD i 0))) ∧ (∀ i, i < l - k + 52 → w7.cell? ⟨gp, i, none⟩ = some (.int .u8 (Z.getD (k + i) 0))) ∧
        (0 < l → ∃ g2, a2 = some ⟨g2, 0, none⟩ ∧ ∀ i, i < l → w7.cell? ⟨g2, i, none⟩ = some (.int .u8 (Z.getD i 0))) := row_cells hz hk hA hB own2'' ownW' ownP
    clear own2'' ownW' ownP
    go_loopw [16] (fun i wr => ∃ j : Nat, j ≤ k ∧ i = .int .i64 j ∧ ∃ n, wr = w7.drewN n) (fun i _ => k - (intOf i).toNat)
    case atStart => exact ⟨0, Nat.zero_le _, rfl, 0, rfl⟩
    case round =>
      obtain ⟨j, hj, rfl, n, rfl⟩ := hrel
      by_cases hlt : j < k
      · obtain ⟨g2, rfl, hO⟩ := hZO (by omega)
        have c1 := hZW j (by omega)
        have c2 := hO j (by omega)
        have b1 : (0 : Int) ≤ (j : Int) := by omega
        have b2 : (j : Int) < (l : Int) := by omega
        have b3 : (j : Int) < (l : Int) + 52 := by omega
        clear hZW hZP hZO hO
        go_wp2
        go_quiet (fail)
        go_wp2
        go_roundw
        case rel => exact ⟨j + 1, by omega, by go_num, n + nq, rfl⟩
        case measure => simp [intOf]; omega
      · go_wp2
        clear hZO
        go_loopw [17] (fun i wr => ∃ j : Nat, j ≤ l - k + 52 ∧ i = .int .i64 j ∧ ∃ n, wr = w7.drewN n) (fun i _ => l - k + 52 - (intOf i).toNat)
        case atStart => exact ⟨0, Nat.zero_le _, rfl, n, rfl⟩
        case round =>
          obtain ⟨j, hj, rfl, n, rfl⟩ := hrel
          by_cases hlt : j < l - k + 52
          · have c1 := hZW (k + j) (by omega)
            have c2 := hZP j (by omega)
            have b1 : (0 : Int) ≤ (j : Int) := by omega
            have b2 : (j : Int) < ((l - k : Nat) : Int) + 52 := by omega
            have b3 : (0 : Int) ≤ (k : Int) + (j : Int) := by omega
            have b4 : (k : Int) + (j : Int) < (l : Int) + 52 := by omega
            clear hZW hZP
            go_wp2
            go_quiet (fail)
            go_wp2
            go_roundw
            case rel => exact ⟨j + 1, by omega, by go_num, n + nq, rfl⟩
            case measure => simp [intOf]; omega
          · go_wp2
            go_ret
            exact ⟨rfl, below_drewN bw7 _⟩
end Go.Proofs.Qxb6608695a
