import Derived.Test.Qxb6608695aWord
import Derived.Deep.RegionWith
namespace Go.Proofs.Qxb6608695a
open Go.RowKit

set_option maxHeartbeats 400000 in
theorem bytes22 (a : Option Addr) (l c : Nat) (k : Int) (w : World) (hl : l ≤ 9223372036854775807) :
    Calls Try.prog 22 #[.slice a l c, .int .i64 k] w fun e w' => e = .returned (.bool (decide (l ≤ 1048576))) ∧ w = w' := by
  by_cases h : l ≤ 1048576
  · have e : decide (l ≤ 1048576) = true := by simpa using h
    rw [e]
    clear e
    go_enter Try.func22, Try.ntmps22
    go_wp2
    go_ret
    exact ⟨rfl, rfl⟩
  · have e : decide (l ≤ 1048576) = false := by simpa using h
    rw [e]
    clear e
    go_enter Try.func22, Try.ntmps22
    go_wp2
    go_ret
    exact ⟨rfl, rfl⟩

/-- The decoder behind j reads: j at most the number of whole words: no error, 4 j bytes gone; beyond: the error, all whole words gone. -/
def DecN (W w : World) (zs : List Int) (whole j : Nat) : Prop := (j ≤ whole ∧ Dec W w (zs.drop (4 * j)) .nilIface) ∨ (whole < j ∧ Dec W w (zs.drop (4 * whole)) truncated)

theorem DecN.drewN {W w : World} {zs : List Int} {whole j : Nat} (h : DecN W w zs whole j) (n : Nat) : DecN W (w.drewN n) zs whole j := by
  rcases h with ⟨h1, h2⟩ | ⟨h1, h2⟩
  · exact .inl ⟨h1, h2.drewN n⟩
  · exact .inr ⟨h1, h2.drewN n⟩
theorem DecN.rest {W w : World} {zs : List Int} {whole j : Nat} (h : DecN W w zs whole j) : ∃ e, Dec W w (zs.drop (4 * min j whole)) e := by
  rcases h with ⟨h1, h2⟩ | ⟨h1, h2⟩
  · exact ⟨_, by rw [Nat.min_eq_left h1]; exact h2⟩
  · exact ⟨_, by rw [Nat.min_eq_right (by omega)]; exact h2⟩

theorem first_below {W w : World} {zs : List Int} {e : Value} (h : Dec W w zs e) {n : Nat} : Below W.heap.size W (w.drewN (1 + n)) := below_drewN h.below _

theorem dec_rest_len (W w : World) (zs : List Int) (e : Value) (L : Nat) (hL : zs.length = L) (h : Dec W w zs e) :
    Calls Try.prog 16 #[.pointer (some ⟨W.heap.size, 0, none⟩)] w fun x w' => ∃ a c, x = .returned (.slice a L c) ∧ Bd W a zs ∧ w = w' := by
  subst hL; exact dec_rest W w zs e h

set_option maxRecDepth 100000 in
set_option maxHeartbeats 1000000 in
theorem law7_main (a : Option Addr) (l c n whole : Nat) (zs : List Int) (w : World) (hz : zs.length = l) (hm : l ≤ 1048576) (hn : n ≤ 65536) (hc0 : a = none → c = 0) (hbd : Bd w a zs) (hu : U8s zs) (hw1 : 4 * whole ≤ l) (hw2 : l < 4 * whole + 4) :
    Calls Try.prog 7 #[.slice a l c, .int .i64 n] w fun e w' => e = .returned (.bool true) ∧ Below w.heap.size w w' := by
  have h22 := bytes22 a l c n w (by omega)
  rw [decide_eq_true hm] at h22
  have H22 : Hid _ := h22
  have hdiv : (l : Int).tdiv 4 = (whole : Int) := by rw [Int.tdiv_eq_ediv_of_nonneg (by omega)]; omega
  clear h22
  go_enter Try.func7, Try.ntmps7
  go_wp2_with fail
  refine Calls.mono H22.out ?_
  rintro e w0 ⟨rfl, rfl⟩
  clear H22
  go_wp2_with fail
  refine (clone_own w.heap.size a l c zs w hz hm (Nat.le_refl _) hc0 hbd).mono ?_
  rintro e w1 ⟨p1, rfl, own1, bl1, -⟩
  have s1 := bl1.size
  clear hbd hc0
  go_wp2_with fail
  refine (clone_own w.heap.size p1 l l zs w1 hz hm s1 (own_nil own1) (bd_of_own own1).1).mono ?_
  rintro e w2 ⟨p2, rfl, own2, bl2, -⟩
  have b1 := (bd_of_own (own_later own1 bl2)).1
  have b2 := (bd_of_own own2).1
  have bl02 : Below w.heap.size w w2 := bl1.trans (bl2.mono s1)
  clear own1 own2 bl1 bl2 s1
  go_wp2_with fail
  refine (new_dec p1 l l zs w2 hz (Nat.le_refl _) (by omega) b1).mono ?_
  rintro e w3 ⟨rfl, d3⟩
  have D3 : DecN w2 w3 zs whole 0 := .inl ⟨Nat.zero_le _, d3⟩
  clear d3 b1
  have t17 : decide ((1048576 : Int) < (l : Int)) = false := decide_eq_false (by omega)
  have t19 : decide ((n : Int) < 0) = false := decide_eq_false (by omega)
  have t22 : decide ((65536 : Int) < (n : Int)) = false := decide_eq_false (by omega)
  go_wp2
  clear t17 t19 t22
  go_loopw [8] (fun i wr => ∃ j : Nat, j ≤ n ∧ i = .int .i64 j ∧ DecN w2 wr zs whole j) (fun i _ => n - (intOf i).toNat)
  case atStart => exact ⟨0, Nat.zero_le _, rfl, D3⟩
  case round =>
    clear D3
    obtain ⟨j, hj, rfl, dj⟩ := hrel
    by_cases hlt : j < n
    · by_cases hjw : j < whole
      · have d4 : Dec w2 wr (zs.drop (4 * j)) .nilIface := by
          rcases dj with ⟨_, h⟩ | ⟨h, _⟩
          · exact h
          · omega
        clear dj
        have hjw' : (j : Int) < (whole : Int) := by omega
        go_wp2_with fail
        refine (u32_ok w2 wr _ (hu.drop _) d4 (by simp; omega)).mono ?_
        rw [wordAt_drop, List.drop_drop]
        rintro e w5 ⟨rfl, d5⟩
        clear d4
        go_wp2_with fail
        refine (be_at w2 _ p2 l l (4 * j) _ (by omega) zs hz (by omega) hm hu b2 d5.below).mono ?_
        rintro e w6 ⟨rfl, n6, rfl⟩
        have d6 := d5.drewN n6
        clear d5
        generalize wordAt zs (4 * j) = W0
        go_wp2_with fail
        refine (dec_err w2 _ _ _ d6).mono ?_
        rintro e w7 ⟨rfl, rfl⟩
        have dn : DecN w2 (w5.drewN n6) zs whole (j + 1) := .inl ⟨by omega, d6⟩
        clear d6
        go_wp2
        go_roundw
        case rel => exact ⟨j + 1, by omega, by go_num, dn⟩
        case measure => simp [intOf]; omega
      · have dn : Calls Try.prog 23 #[.pointer (some ⟨w2.heap.size, 0, none⟩)] wr fun e w' => e = .returned (.int .u32 0) ∧ Dec w2 w' (zs.drop (4 * whole)) truncated := by
          rcases dj with ⟨h1, h2⟩ | ⟨h1, h2⟩
          · obtain rfl : j = whole := by omega
            exact u32_over w2 wr _ h2 (by simp; omega)
          · exact u32_after w2 wr _ h2
        have HN : Hid _ := dn
        clear dn dj
        have hjw' : ¬ (j : Int) < (whole : Int) := by omega
        go_wp2_with fail
        refine Calls.mono HN.out ?_
        rintro e w5 ⟨rfl, d5⟩
        clear HN
        go_wp2_with fail
        refine (dec_err w2 _ _ _ d5).mono ?_
        rintro e w7 ⟨rfl, rfl⟩
        have dn : DecN w2 w5 zs whole (j + 1) := .inr ⟨by omega, d5⟩
        clear d5
        unfold truncated
        go_wp2
        go_roundw
        case rel => exact ⟨j + 1, by omega, by go_num, dn⟩
        case measure => simp [intOf]; omega
    · obtain rfl : j = n := by omega
      obtain ⟨er, d4⟩ := dj.rest
      clear dj
      have d4' := d4.drew
      by_cases hnw : whole < j
      · rw [Nat.min_eq_right (by omega)] at d4 d4'
        have tn : ((4 : Int) * (whole : Int)).toNat = 4 * whole := by omega
        have tn0 : (0 : Int) ≤ (4 : Int) * (whole : Int) := by omega
        have hwr : IntKind.i64.wrap (4 * (whole : Int)) = 4 * (whole : Int) := by rw [IntKind.wrap_i64]; omega
        by_cases hlu : l = 4 * whole
        · have hL : (zs.drop (4 * whole)).length = 0 := by simp; omega
          have HL : Hid _ := hL
          clear hL
          go_wp2_with fail
          go_region_with (first
            | (go_at_call 16; refine (dec_rest_len w2 _ _ _ 0 HL.out (by first | exact d4 | exact d4')).mono ?_; rintro e w6 ⟨a6, c6, rfl, b6, rfl⟩)
            | (go_at_call 13; refine (same_bd w2 _ a6 p2 0 c6 0 [] rfl (by omega) (Bd.nil _ _) (Bd.nil _ _) d4'.below).mono ?_; rintro e w7 ⟨rfl, n7, rfl⟩))
          all_goals go_wp2
          all_goals go_ret
          all_goals exact ⟨rfl, bl02.trans ((first_below d4).mono bl02.size)⟩
        · have hL : (zs.drop (4 * whole)).length = l - 4 * whole := by simp [hz]
          have HL : Hid _ := hL
          have b2' := b2.drop (4 * whole)
          have tl : (4 : Int) * (whole : Int) ≤ (l : Int) := by omega
          clear hL
          go_wp2_with fail
          go_region_with (first
            | (go_at_call 16; refine (dec_rest_len w2 _ _ _ (l - 4 * whole) HL.out (by first | exact d4 | exact d4')).mono ?_; rintro e w6 ⟨a6, c6, rfl, b6, rfl⟩)
            | (go_at_call 13; refine (same_bd w2 _ a6 _ (l - 4 * whole) c6 (l - 4 * whole) (zs.drop (4 * whole)) HL.out (by omega) b6 b2' d4'.below).mono ?_; rintro e w7 ⟨rfl, n7, rfl⟩))
          all_goals go_wp2
          all_goals go_ret
          all_goals exact ⟨rfl, bl02.trans ((first_below d4).mono bl02.size)⟩
      · rw [Nat.min_eq_left (by omega)] at d4 d4'
        have tn : ((4 : Int) * (j : Int)).toNat = 4 * j := by omega
        have tn0 : (0 : Int) ≤ (4 : Int) * (j : Int) := by omega
        have hwr : IntKind.i64.wrap (4 * (j : Int)) = 4 * (j : Int) := by rw [IntKind.wrap_i64]; omega
        by_cases hlu : l = 4 * j
        · have hL : (zs.drop (4 * j)).length = 0 := by simp; omega
          have HL : Hid _ := hL
          clear hL
          go_wp2_with fail
          go_region_with (first
            | (go_at_call 16; refine (dec_rest_len w2 _ _ _ 0 HL.out (by first | exact d4 | exact d4')).mono ?_; rintro e w6 ⟨a6, c6, rfl, b6, rfl⟩)
            | (go_at_call 13; refine (same_bd w2 _ a6 p2 0 c6 0 [] rfl (by omega) (Bd.nil _ _) (Bd.nil _ _) d4'.below).mono ?_; rintro e w7 ⟨rfl, n7, rfl⟩))
          all_goals go_wp2
          all_goals go_ret
          all_goals exact ⟨rfl, bl02.trans ((first_below d4).mono bl02.size)⟩
        · have hL : (zs.drop (4 * j)).length = l - 4 * j := by simp [hz]
          have HL : Hid _ := hL
          have b2' := b2.drop (4 * j)
          have tl : (4 : Int) * (j : Int) ≤ (l : Int) := by omega
          clear hL
          go_wp2_with fail
          go_region_with (first
            | (go_at_call 16; refine (dec_rest_len w2 _ _ _ (l - 4 * j) HL.out (by first | exact d4 | exact d4')).mono ?_; rintro e w6 ⟨a6, c6, rfl, b6, rfl⟩)
            | (go_at_call 13; refine (same_bd w2 _ a6 _ (l - 4 * j) c6 (l - 4 * j) (zs.drop (4 * j)) HL.out (by omega) b6 b2' d4'.below).mono ?_; rintro e w7 ⟨rfl, n7, rfl⟩))
          all_goals go_wp2
          all_goals go_ret
          all_goals exact ⟨rfl, bl02.trans ((first_below d4).mono bl02.size)⟩

set_option maxRecDepth 100000 in
set_option maxHeartbeats 400000 in
theorem law7_out (a : Option Addr) (l c : Nat) (m : Int) (w : World) (hl : l ≤ 9223372036854775807) (h : ¬ l ≤ 1048576 ∨ m < 0 ∨ 65536 < m) :
    Calls Try.prog 7 #[.slice a l c, .int .i64 m] w fun e w' => e = .returned (.bool true) ∧ Below w.heap.size w w' := by
  have h22 := bytes22 a l c m w hl
  by_cases hm : l ≤ 1048576
  · rw [decide_eq_true hm] at h22
    have H22 : Hid _ := h22
    clear h22
    by_cases hm0 : m < 0
    · clear h
      go_enter Try.func7, Try.ntmps7
      go_wp2_with fail
      refine Calls.mono H22.out ?_
      rintro e w0 ⟨rfl, rfl⟩
      go_wp2
      go_ret
      exact ⟨rfl, Below.refl _ _⟩
    · have hm1 : 65536 < m := by omega
      clear h
      go_enter Try.func7, Try.ntmps7
      go_wp2_with fail
      refine Calls.mono H22.out ?_
      rintro e w0 ⟨rfl, rfl⟩
      go_wp2
      go_ret
      exact ⟨rfl, Below.refl _ _⟩
  · rw [decide_eq_false hm] at h22
    have H22 : Hid _ := h22
    clear h22 h
    go_enter Try.func7, Try.ntmps7
    go_wp2_with fail
    refine Calls.mono H22.out ?_
    rintro e w0 ⟨rfl, rfl⟩
    go_wp2
    go_ret
    exact ⟨rfl, Below.refl _ _⟩

theorem law7 (a : Option Addr) (l c : Nat) (m : Int) (zs : List Int) (w : World) (hz : zs.length = l) (hl : l ≤ 9223372036854775807) (hc0 : a = none → c = 0) (hbd : Bd w a zs) (hu : U8s zs) :
    Calls Try.prog 7 #[.slice a l c, .int .i64 m] w fun e w' => e = .returned (.bool true) ∧ Below w.heap.size w w' := by
  by_cases h : ¬ l ≤ 1048576 ∨ m < 0 ∨ 65536 < m
  · exact law7_out a l c m w hl h
  · obtain ⟨k, rfl⟩ := Int.eq_ofNat_of_zero_le (show 0 ≤ m by omega)
    exact law7_main a l c k (l / 4) zs w hz (by omega) (by omega) hc0 hbd hu (by omega) (by omega)

theorem u8s_of {zs : List Int} (h : ∀ n ∈ zs, (Lit.int .u8 n).wf = true) : U8s zs := fun i => by
  by_cases hi : i < zs.length
  · have hm : zs.getD i 0 ∈ zs := by simp [hi]
    have := h _ hm
    simp [Lit.wf, IntKind.min, IntKind.max, IntKind.signed, IntKind.bits] at this
    simp at this ⊢
    omega
  · simp [hi]
end Go.Proofs.Qxb6608695a
