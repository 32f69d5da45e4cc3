import Derived.Test.Qxb6608695aWord
namespace Go.Proofs.Qxb6608695a
open Go.RowKit

set_option maxHeartbeats 400000 in
theorem bytes25 (a : Option Addr) (l c : Nat) (k : Int) (w : World) (hl : l ≤ 9223372036854775807) :
    Calls Try.prog 25 #[.slice a l c, .int .i64 k] w fun e w' => e = .returned (.bool (decide (l ≤ 1048576))) ∧ w = w' := by
  by_cases h : l ≤ 1048576
  · have e : decide (l ≤ 1048576) = true := by simpa using h
    rw [e]
    clear e
    go_enter Try.func25, Try.ntmps25
    go_wp2
    go_ret
    exact ⟨rfl, rfl⟩
  · have e : decide (l ≤ 1048576) = false := by simpa using h
    rw [e]
    clear e
    go_enter Try.func25, Try.ntmps25
    go_wp2
    go_ret
    exact ⟨rfl, rfl⟩

set_option maxRecDepth 100000 in
set_option maxHeartbeats 1000000 in
theorem law8_over (a : Option Addr) (l c : Nat) (m : Int) (zs : List Int) (w : World) (hz : zs.length = l) (hm : l ≤ 1048576) (hc0 : a = none → c = 0) (hbd : Bd w a zs) (hlt : (l : Int) < m) :
    Calls Try.prog 8 #[.slice a l c, .int .i64 m] w fun e w' => e = .returned (.bool true) ∧ Below w.heap.size w w' := by
  have h25 := bytes25 a l c m w (by omega)
  rw [decide_eq_true hm] at h25
  have H25 : Hid _ := h25
  have q := q22
  clear h25
  go_enter Try.func8, Try.ntmps8
  go_wp2_with fail
  refine Calls.mono H25.out ?_
  rintro e w0 ⟨rfl, rfl⟩
  clear H25
  go_wp2_with fail
  refine (clone_own w.heap.size a l c zs w hz hm (Nat.le_refl _) hc0 hbd).mono ?_
  rintro e w1 ⟨p1, rfl, own1, bl1, -⟩
  have s1 := bl1.size
  clear hbd hc0
  go_wp2_with fail
  refine (clone_own w.heap.size p1 l l zs w1 hz hm s1 (own_nil own1) (bd_of_own own1).1).mono ?_
  rintro e w2 ⟨p2, rfl, own2, bl2, -⟩
  have b1 := (bd_of_own (own_later own1 bl2)).1
  have b2 := (bd_of_own own2).1
  have bl02 : Below w.heap.size w w2 := bl1.trans (bl2.mono s1)
  clear own1 own2 bl1 bl2 s1
  go_wp2_with fail
  refine (new_dec p1 l l zs w2 hz (Nat.le_refl _) (by omega) b1).mono ?_
  rintro e w3 ⟨rfl, d3⟩
  go_wp2_with fail
  refine (dec_over14 w2 w3 zs m d3 (by omega)).mono ?_
  rintro e w4 ⟨rfl, d4⟩
  go_wp2_with fail
  refine (u32_after w2 w4 zs d4).mono ?_
  rintro e w5 ⟨rfl, d5⟩
  go_wp2_with fail
  refine (dec_err w2 w5 zs _ d5).mono ?_
  rintro e w6 ⟨rfl, rfl⟩
  clear d3 d4
  unfold truncated
  go_wp2_with fail
  refine (dec_rest w2 w5 zs _ d5).mono ?_
  rintro e w6 ⟨a6, c6, rfl, b6, rfl⟩
  rw [hz]
  go_wp2_with fail
  refine (same_bd w2 w5 a6 p2 l c6 l zs hz (by omega) b6 b2 d5.below).mono ?_
  rintro e w7 ⟨rfl, n7, rfl⟩
  go_wp2
  go_ret
  exact ⟨rfl, bl02.trans ((d5.drewN n7).below.mono bl02.size)⟩

set_option maxRecDepth 100000 in
set_option maxHeartbeats 1000000 in
theorem law8_mid (a : Option Addr) (l c k : Nat) (zs : List Int) (w : World) (hz : zs.length = l) (hm : l ≤ 1048576) (hc0 : a = none → c = 0) (hbd : Bd w a zs) (hu : U8s zs) (hlt : k + 4 ≤ l) :
    Calls Try.prog 8 #[.slice a l c, .int .i64 k] w fun e w' => e = .returned (.bool true) ∧ Below w.heap.size w w' := by
  have h25 := bytes25 a l c k w (by omega)
  rw [decide_eq_true hm] at h25
  have H25 : Hid _ := h25
  clear h25
  go_enter Try.func8, Try.ntmps8
  go_wp2_with fail
  refine Calls.mono H25.out ?_
  rintro e w0 ⟨rfl, rfl⟩
  clear H25
  go_wp2_with fail
  refine (clone_own w.heap.size a l c zs w hz hm (Nat.le_refl _) hc0 hbd).mono ?_
  rintro e w1 ⟨p1, rfl, own1, bl1, -⟩
  have s1 := bl1.size
  clear hbd hc0
  go_wp2_with fail
  refine (clone_own w.heap.size p1 l l zs w1 hz hm s1 (own_nil own1) (bd_of_own own1).1).mono ?_
  rintro e w2 ⟨p2, rfl, own2, bl2, -⟩
  have b1 := (bd_of_own (own_later own1 bl2)).1
  have b2 := (bd_of_own own2).1
  have bl02 : Below w.heap.size w w2 := bl1.trans (bl2.mono s1)
  clear own1 own2 bl1 bl2 s1
  go_wp2_with fail
  refine (new_dec p1 l l zs w2 hz (Nat.le_refl _) (by omega) b1).mono ?_
  rintro e w3 ⟨rfl, d3⟩
  go_wp2_with fail
  refine (dec_take14 w2 w3 zs k d3 (by omega)).mono ?_
  rintro e w4 ⟨a4, c4, rfl, b4, d4⟩
  clear d3 b1
  go_wp2_with fail
  refine (u32_ok w2 w4 _ (hu.drop k) d4 (by simp; omega)).mono ?_
  rw [wordAt_drop, List.drop_drop]
  rintro e w5 ⟨rfl, d5⟩
  have l5 : (zs.drop (k + 4)).length = l - (k + 4) := by simp [hz]
  clear d4
  go_wp2_with fail
  refine (dec_err w2 w5 _ _ d5).mono ?_
  rintro e w6 ⟨rfl, rfl⟩
  go_wp2_with fail
  refine (dec_rest w2 w5 _ _ d5).mono ?_
  rw [l5]
  rintro e w6 ⟨a6, c6, rfl, b6, rfl⟩
  have e4 : (zs.take k).length = k := by simp; omega
  have e5 : (4 : Int) ≤ (l : Int) - (k : Int) := by omega
  have L5 : Hid _ := l5
  have E4 : Hid _ := e4
  clear l5 e4
  go_wp2_with fail
  refine (same_bd w2 w5 a4 p2 k c4 l (zs.take k) E4.out (by omega) b4 (b2.take k) d5.below).mono ?_
  rintro e w7 ⟨rfl, n7, rfl⟩
  have d7 := d5.drewN n7
  clear b4 E4
  go_wp2_with fail
  refine (be_at w2 _ p2 l l k k rfl zs hz hlt hm hu b2 d7.below).mono ?_
  rintro e w8 ⟨rfl, n8, rfl⟩
  have d8 : Dec w2 (w5.drewN (n7 + n8)) (zs.drop (k + 4)) .nilIface := d5.drewN _
  clear d7
  generalize wordAt zs k = W0 at *
  by_cases hkl : l = k + 4
  · have e0 : l - (k + 4) = 0 := by omega
    have b6' : Bd w2 a6 [] := Bd.nil _ _
    rw [e0]
    go_wp2_with fail
    refine (same_bd w2 _ a6 p2 0 c6 0 [] rfl (by omega) b6' (Bd.nil _ _) d8.below).mono ?_
    rintro e w9 ⟨rfl, n9, rfl⟩
    go_wp2
    go_ret
    exact ⟨rfl, bl02.trans ((below_drewN d5.below _).mono bl02.size)⟩
  · have b2' : Bd w2 (Option.map (fun x => ({ block := x.block, off := x.off + (k + 3 + 1) } : Addr)) p2) (zs.drop (k + 4)) := by
      have := b2.drop (k + 4)
      simpa [Addr.add] using this
    go_wp2_with fail
    refine (same_bd w2 _ a6 _ (l - (k + 4)) c6 (l - (k + 4)) (zs.drop (k + 4)) L5.out (by omega) b6 b2' d8.below).mono ?_
    rintro e w9 ⟨rfl, n9, rfl⟩
    go_wp2
    go_ret
    exact ⟨rfl, bl02.trans ((below_drewN d5.below _).mono bl02.size)⟩

set_option maxRecDepth 100000 in
set_option maxHeartbeats 1000000 in
theorem law8_end (a : Option Addr) (l c k : Nat) (zs : List Int) (w : World) (hz : zs.length = l) (hm : l ≤ 1048576) (hc0 : a = none → c = 0) (hbd : Bd w a zs)  (hlt : k ≤ l ∧ l < k + 4) :
    Calls Try.prog 8 #[.slice a l c, .int .i64 k] w fun e w' => e = .returned (.bool true) ∧ Below w.heap.size w w' := by
  have h25 := bytes25 a l c k w (by omega)
  rw [decide_eq_true hm] at h25
  have H25 : Hid _ := h25
  clear h25
  go_enter Try.func8, Try.ntmps8
  go_wp2_with fail
  refine Calls.mono H25.out ?_
  rintro e w0 ⟨rfl, rfl⟩
  clear H25
  go_wp2_with fail
  refine (clone_own w.heap.size a l c zs w hz hm (Nat.le_refl _) hc0 hbd).mono ?_
  rintro e w1 ⟨p1, rfl, own1, bl1, -⟩
  have s1 := bl1.size
  clear hbd hc0
  go_wp2_with fail
  refine (clone_own w.heap.size p1 l l zs w1 hz hm s1 (own_nil own1) (bd_of_own own1).1).mono ?_
  rintro e w2 ⟨p2, rfl, own2, bl2, -⟩
  have b1 := (bd_of_own (own_later own1 bl2)).1
  have b2 := (bd_of_own own2).1
  have bl02 : Below w.heap.size w w2 := bl1.trans (bl2.mono s1)
  clear own1 own2 bl1 bl2 s1
  go_wp2_with fail
  refine (new_dec p1 l l zs w2 hz (Nat.le_refl _) (by omega) b1).mono ?_
  rintro e w3 ⟨rfl, d3⟩
  go_wp2_with fail
  refine (dec_take14 w2 w3 zs k d3 (by omega)).mono ?_
  rintro e w4 ⟨a4, c4, rfl, b4, d4⟩
  clear d3 b1
  go_wp2_with fail
  refine (u32_over w2 w4 _ d4 (by simp; omega)).mono ?_
  rintro e w5 ⟨rfl, d5⟩
  have l5 : (zs.drop k).length = l - k := by simp [hz]
  clear d4
  go_wp2_with fail
  refine (dec_err w2 w5 _ _ d5).mono ?_
  rintro e w6 ⟨rfl, rfl⟩
  unfold truncated
  go_wp2_with fail
  refine (dec_rest w2 w5 _ _ d5).mono ?_
  rw [l5]
  rintro e w6 ⟨a6, c6, rfl, b6, rfl⟩
  have e4 : (zs.take k).length = k := by simp; omega
  have e5 : ¬ (4 : Int) ≤ (l : Int) - (k : Int) := by omega
  have L5 : Hid _ := l5
  have E4 : Hid _ := e4
  clear l5 e4
  go_wp2_with fail
  refine (same_bd w2 w5 a4 p2 k c4 l (zs.take k) E4.out (by omega) b4 (b2.take k) d5.below).mono ?_
  rintro e w7 ⟨rfl, n7, rfl⟩
  have d7 := d5.drewN n7
  clear b4 E4
  by_cases hkl : l = k
  · have e0 : l - k = 0 := by omega
    rw [e0]
    go_wp2_with fail
    refine (same_bd w2 _ a6 p2 0 c6 0 [] rfl (by omega) (Bd.nil _ _) (Bd.nil _ _) d7.below).mono ?_
    rintro e w9 ⟨rfl, n9, rfl⟩
    go_wp2
    go_ret
    exact ⟨rfl, bl02.trans ((below_drewN d5.below _).mono bl02.size)⟩
  · go_wp2_with fail
    refine (same_bd w2 _ a6 _ (l - k) c6 (l - k) (zs.drop k) L5.out (by omega) b6 (b2.drop k) d7.below).mono ?_
    rintro e w9 ⟨rfl, n9, rfl⟩
    go_wp2
    go_ret
    exact ⟨rfl, bl02.trans ((below_drewN d5.below _).mono bl02.size)⟩

set_option maxRecDepth 100000 in
set_option maxHeartbeats 400000 in
theorem law8_out (a : Option Addr) (l c : Nat) (m : Int) (w : World) (hl : l ≤ 9223372036854775807) (h : ¬ l ≤ 1048576 ∨ m < 0) :
    Calls Try.prog 8 #[.slice a l c, .int .i64 m] w fun e w' => e = .returned (.bool true) ∧ Below w.heap.size w w' := by
  have h25 := bytes25 a l c m w hl
  by_cases hm : l ≤ 1048576
  · have hm0 : m < 0 := by omega
    rw [decide_eq_true hm] at h25
    have H25 : Hid _ := h25
    clear h25 h
    go_enter Try.func8, Try.ntmps8
    go_wp2_with fail
    refine Calls.mono H25.out ?_
    rintro e w0 ⟨rfl, rfl⟩
    go_wp2
    go_ret
    exact ⟨rfl, Below.refl _ _⟩
  · rw [decide_eq_false hm] at h25
    have H25 : Hid _ := h25
    clear h25 h
    go_enter Try.func8, Try.ntmps8
    go_wp2_with fail
    refine Calls.mono H25.out ?_
    rintro e w0 ⟨rfl, rfl⟩
    go_wp2
    go_ret
    exact ⟨rfl, Below.refl _ _⟩

theorem law8 (a : Option Addr) (l c : Nat) (m : Int) (zs : List Int) (w : World) (hz : zs.length = l) (hl : l ≤ 9223372036854775807) (hc0 : a = none → c = 0) (hbd : Bd w a zs) (hu : U8s zs) :
    Calls Try.prog 8 #[.slice a l c, .int .i64 m] w fun e w' => e = .returned (.bool true) ∧ Below w.heap.size w w' := by
  by_cases h : ¬ l ≤ 1048576 ∨ m < 0
  · exact law8_out a l c m w hl h
  · obtain ⟨k, rfl⟩ := Int.eq_ofNat_of_zero_le (show 0 ≤ m by omega)
    by_cases h1 : l < k
    · exact law8_over a l c k zs w hz (by omega) hc0 hbd (by omega)
    · by_cases h2 : k + 4 ≤ l
      · exact law8_mid a l c k zs w hz (by omega) hc0 hbd hu h2
      · exact law8_end a l c k zs w hz (by omega) hc0 hbd (by omega)

theorem u8s_of {zs : List Int} (h : ∀ n ∈ zs, (Lit.int .u8 n).wf = true) : U8s zs := fun i => by
  by_cases hi : i < zs.length
  · have hm : zs.getD i 0 ∈ zs := by simp [hi]
    have := h _ hm
    simp [Lit.wf, IntKind.min, IntKind.max, IntKind.signed, IntKind.bits] at this
    simp at this ⊢
    omega
  · simp [hi]
end Go.Proofs.Qxb6608695a
