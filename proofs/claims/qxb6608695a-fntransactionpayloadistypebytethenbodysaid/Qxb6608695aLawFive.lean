import Derived.Test.Qxb6608695aDec
import Derived.Laws.AppendOwnNone
namespace Go.Proofs.Qxb6608695a
open Go.RowKit

theorem bd_news {w : World} {x : Addr} {ys : List Int} (h : Bd w (some x) ys) : ∀ j u, (bytesOf ys)[j]? = some u → w.cell? (x.add j) = some u := fun j u hu => by
  obtain ⟨hj, rfl⟩ := bytesOf_get ys j u hu
  obtain ⟨y, hy, hc⟩ := h j hj
  cases hy
  exact hc

set_option maxHeartbeats 400000 in
theorem fields28 (base n g c t m c1 : Nat) (xs : List Value) (a1 : Option Addr) (ys : List Int) (w : World) (hown : w.ownsRow base 5 1 (.slice (some ⟨g, 0, none⟩) n c) n xs) (hn : n ≤ 4194304) (hm : m ≤ 4194304) (hn0 : 0 < n) (hbase : base ≤ w.heap.size)
    (hcell : w.cell? ⟨t, 0, none⟩ = some (.slice a1 m c1)) (hy : ys.length = m) (hb : Bd w a1 ys) (h0 : a1 = none → c1 = 0) :
    Calls Try.prog 28 #[.pointer (some ⟨t, 0, none⟩), .slice (some ⟨g, 0, none⟩) n c] w fun e w' => ∃ g' c', e = .returned (.tuple #[.slice (some ⟨g', 0, none⟩) (n + m) c', .nilIface]) ∧ w'.ownsRow base 5 1 (.slice (some ⟨g', 0, none⟩) (n + m) c') (n + m) (xs ++ bytesOf ys) ∧ w.grownBy w' (some g) ∧ (g' = g ∨ w.heap.size ≤ g') := by
  obtain ⟨i0, hi, hz0, hz1, hz2⟩ := info_parts Try.info5
  cases a1 with
  | none =>
    have hl : m = 0 := by
      refine Nat.eq_zero_of_not_pos fun hp => ?_
      obtain ⟨x, hx, _⟩ := hb 0 (by omega)
      cases hx
    subst hl
    obtain rfl : ys = [] := List.eq_nil_of_length_eq_zero hy
    obtain rfl := h0 rfl
    have fin : w.ownsRow base 5 1 (.slice (some ⟨g, 0, none⟩) (n + 0) c) (n + 0) (xs ++ bytesOf []) := by simpa [bytesOf] using hown
    have Fin : Hid _ := fin
    clear fin
    go_enter Try.func28, Try.ntmps28
    go_wp2_with (at_builtin; refine wpList_append_own_none rfl (.tmp 6) (.tmp 10) 22 rfl base 5 i0 1 Try.underlying22 hi _ n xs rfl hown rfl ?_)
    go_ret2
    exact ⟨g, c, rfl, Hid.out Fin, World.grownBy.refl _ _, .inl rfl⟩
  | some x =>
    have lY : (bytesOf ys).length = m * 1 := by rw [length_bytesOf, hy]; omega
    have m1 : n + m ≤ maxLen := by unfold maxLen; omega
    have m3 : (n + m) * 1 ≤ 140737488355328 := by omega
    have nw := bd_news hb
    go_enter Try.func28, Try.ntmps28
    go_wp2_with (at_builtin; refine wpList_append_own_at _ rfl (.tmp 6) (.tmp 10) 22 rfl base 5 i0 (.int .u8 0) 1 1 Try.underlying22 hi hz0 hz1 hz2 rfl (by decide) (.slice (some ⟨g, 0, none⟩) n c) n xs rfl hown x m c1 (bytesOf ys) rfl lY nw (bytesOf_one ys) m1 m3 hbase ?_; intro v1 w1 hown1 hg1 _ hat1)
    go_ret2
    obtain ⟨g', c', rfl⟩ := own_form hown1 (by omega)
    refine ⟨g', c', rfl, hown1, hg1, ?_⟩
    rcases hat1 with h | h
    · cases h; exact .inl rfl
    · cases h; exact .inr (Nat.le_refl _)

set_option maxHeartbeats 400000 in
theorem fields20 (base n g c t m c1 : Nat) (xs : List Value) (a1 : Option Addr) (ys : List Int) (w : World) (hown : w.ownsRow base 5 1 (.slice (some ⟨g, 0, none⟩) n c) n xs) (hn : n ≤ 4194304) (hm : m ≤ 4194304) (hn0 : 0 < n) (hbase : base ≤ w.heap.size)
    (hcell : w.cell? ⟨t, 0, none⟩ = some (.slice a1 m c1)) (hy : ys.length = m) (hb : Bd w a1 ys) (h0 : a1 = none → c1 = 0) :
    Calls Try.prog 20 #[.pointer (some ⟨t, 0, none⟩), .slice (some ⟨g, 0, none⟩) n c] w fun e w' => ∃ g' c', e = .returned (.tuple #[.slice (some ⟨g', 0, none⟩) (n + m) c', .nilIface]) ∧ w'.ownsRow base 5 1 (.slice (some ⟨g', 0, none⟩) (n + m) c') (n + m) (xs ++ bytesOf ys) ∧ w.grownBy w' (some g) ∧ (g' = g ∨ w.heap.size ≤ g') := by
  have C := fields28 base n g c t m c1 xs a1 ys w hown hn hm hn0 hbase hcell hy hb h0
  have HC : Hid _ := C
  clear C hb hown
  go_enter Try.func20, Try.ntmps20
  go_wp2_with fail
  refine Calls.mono HC.out ?_
  rintro e w' ⟨g', c', rfl, h1, h2, h3⟩
  go_wp2
  go_ret2
  exact ⟨g', c', rfl, h1, h2, h3⟩

set_option maxHeartbeats 400000 in
theorem type19 (v : Value) (w : World) : Calls Try.prog 19 #[v] w fun e w' => e = .returned (.int .u8 13) ∧ w' = w := by
  go_enter Try.func19, Try.ntmps19
  go_wp2
  go_ret
  exact ⟨rfl, rfl⟩

set_option maxHeartbeats 400000 in
theorem bytes18_yes (a0 a1 : Option Addr) (l0 c0 l1 c1 : Nat) (w : World) (h : l0 + l1 ≤ 1048576) :
    Calls Try.prog 18 #[.slice a0 l0 c0, .slice a1 l1 c1] w fun e w' => e = .returned (.bool true) ∧ w' = w := by
  go_enter Try.func18, Try.ntmps18
  go_wp2
  go_ret
  exact ⟨rfl, rfl⟩

set_option maxHeartbeats 400000 in
theorem bytes18_no (a0 a1 : Option Addr) (l0 c0 l1 c1 : Nat) (w : World) (h : ¬ l0 + l1 ≤ 1048576) (h0 : l0 ≤ 9223372036854775807) (h1 : l1 ≤ 9223372036854775807) :
    Calls Try.prog 18 #[.slice a0 l0 c0, .slice a1 l1 c1] w fun e w' => e = .returned (.bool false) ∧ w' = w := by
  by_cases h2 : l0 ≤ 1048576
  · by_cases h3 : l1 ≤ 1048576
    · go_enter Try.func18, Try.ntmps18
      go_wp2
      go_ret
      exact ⟨rfl, rfl⟩
    · go_enter Try.func18, Try.ntmps18
      go_wp2
      go_ret
      exact ⟨rfl, rfl⟩
  · go_enter Try.func18, Try.ntmps18
    go_wp2
    go_ret
    exact ⟨rfl, rfl⟩

theorem not_own {v : Value} {k : Nat} (hlt : ∀ j, v.ownBlock = some j → j < k) {u : Value} (hu : ∀ j, u.ownBlock = some j → k ≤ j) : u.ownBlock = none ∨ u.ownBlock ≠ v.ownBlock := by
  refine Classical.or_iff_not_imp_left.2 fun hne e => ?_
  obtain ⟨j, hj⟩ := Option.ne_none_iff_exists'.1 hne
  have := hu _ hj; rw [hj] at e; have := hlt _ e.symm; omega

set_option maxRecDepth 100000 in
set_option maxHeartbeats 1000000 in
theorem law5_main (a0 a1 : Option Addr) (l0 c0 l1 c1 : Nat) (zs ys : List Int) (w : World) (hz : zs.length = l0) (hy : ys.length = l1) (hm0 : l0 ≤ 524288) (hm1 : l1 ≤ 524288) (hn0 : a0 = none → c0 = 0) (hn1 : a1 = none → c1 = 0) (hb0 : Bd w a0 zs) (hb1 : Bd w a1 ys) :
    Calls Try.prog 5 #[.slice a0 l0 c0, .slice a1 l1 c1] w fun e w' => e = .returned (.bool true) ∧ Below w.heap.size w w' := by
  obtain ⟨i0, hi, hz0, hz1, hz2⟩ := info_parts Try.info5
  go_enter Try.func5, Try.ntmps5
  go_wp2_with fail
  refine (bytes18_yes a0 a1 l0 c0 l1 c1 w (by omega)).mono ?_
  rintro e w0 ⟨rfl, hw0⟩
  obtain rfl : w = w0 := hw0.symm
  clear hw0
  go_wp2_with fail
  refine (clone_own w.heap.size a0 l0 c0 zs w hz (by omega) (Nat.le_refl _) hn0 hb0).mono ?_
  rintro e w1 ⟨p1, rfl, own1, bl1, fr1⟩
  have s1 := bl1.size
  clear hb0 hn0
  go_wp2_with fail
  refine (clone_own w.heap.size p1 l0 l0 zs w1 hz (by omega) s1 (own_nil own1) (bd_of_own own1).1).mono ?_
  rintro e w2 ⟨p2, rfl, own2, bl2, fr2⟩
  have s2 := bl2.size
  have f1 : ∀ j, (Value.slice p1 l0 l0).ownBlock = some j → j < w1.heap.size := fun j hj => (own1.lt j hj).2
  have own1' := own_later own1 bl2
  have bl02 : Below w.heap.size w w2 := bl1.trans (bl2.mono s1)
  clear own1 fr1 bl1
  go_wp2_with fail
  refine (clone_own w.heap.size a1 l1 c1 ys w2 hy (by omega) (by omega) hn1 (hb1.later bl02)).mono ?_
  rintro e w3 ⟨p3, rfl, own3, bl3, fr3⟩
  have s3 := bl3.size
  have f2 : ∀ j, (Value.slice p2 l0 l0).ownBlock = some j → j < w2.heap.size := fun j hj => (own2.lt j hj).2
  have f3 : ∀ j, (Value.slice p3 l1 l1).ownBlock = some j → j < w3.heap.size := fun j hj => (own3.lt j hj).2
  have own1 := own_later own1' bl3
  have own2' := own_later own2 bl3
  have bl03 : Below w.heap.size w w3 := bl02.trans (bl3.mono (by omega))
  clear own2 own1' bl2 bl02
  go_wp2_with fail
  refine (type19 _ _).mono ?_
  rintro e w4 ⟨rfl, rfl⟩
  have m1 : l0 + 1 ≤ maxLen := by unfold maxLen; omega
  have m2 : (l0 + 1) * 1 ≤ 140737488355328 := by omega
  go_wp2_with (at_builtin; refine wpList_append_own_at _ rfl (.tmp 31) (.tmp 34) 22 rfl w.heap.size 5 i0 (.int .u8 0) 1 1 Try.underlying22 hi hz0 hz1 hz2 rfl (by decide) (.slice p1 l0 l0) l0 (bytesOf zs) rfl ((own1.alloc _).alloc _) ⟨w3.heap.size + 1, 0, none⟩ 1 1 (bytesOf [13]) rfl rfl ?c1 (bytesOf_one _) m1 m2 ?c2 ?_)
  case c1 =>
    intro j u hu
    have := box_cells0 (w3.alloc (.cells #[.slice a1 l1 c1] 44)) (bytesOf [13]) [] 5 j u hu
    simpa [bytesOf] using this
  case c2 => simp; omega
  intro v5 w5 own5 gr5 _ at5
  obtain ⟨g5, c5, rfl⟩ := own_form own5 (by omega)
  have s5 := gr5.size
  simp at s5
  have own2 := ((own2'.alloc (.cells #[.slice a1 l1 c1] 44)).alloc (.cells #[.int .u8 13] 5)).kept gr5 (not_own f1 fr2)
  have own3' := ((own3.alloc (.cells #[.slice a1 l1 c1] 44)).alloc (.cells #[.int .u8 13] 5)).kept gr5 (not_own f1 (fun j hj => Nat.le_trans s2 (fr3 j hj)))
  have bl05 : Below w.heap.size w w5 := ((bl03.alloc (by omega) _).alloc (by simp; omega) _).grown gr5 (by simp; omega) (fun j hj => (own1.lt j hj).1)
  have tx5 : w5.cell? ⟨w3.heap.size, 0, none⟩ = some (.slice a1 l1 c1) := by
    refine gr5.cell (a := ⟨w3.heap.size, 0, none⟩) ?_ (fun e => by have := f1 _ e.symm; simp at this; omega)
    rw [cell_of_row _ _ 0 _ _ _ (heap_alloc2_old w3 _ _)]; rfl
  have at5' : g5 < w1.heap.size ∨ w3.heap.size < g5 := by
    rcases at5 with h | h
    · exact .inl (f1 _ h.symm)
    · simp [Value.ownBlock] at h; exact .inr (by omega)
  clear own1 own2' own3 gr5 at5 bl03 f1 bl3
  go_wp2_with fail
  refine (fields20 w.heap.size (l0 + 1) g5 c5 w3.heap.size l1 c1 _ a1 ys w5 own5 (by omega) (by omega) (by omega) (by omega) tx5 hy (hb1.later bl05) hn1).mono ?_
  rintro e w6 ⟨g6, c6, rfl, own6, gr6, at6⟩
  have own2' := own2.kept gr6 (by
    refine Classical.or_iff_not_imp_left.2 fun hne e => ?_
    have h1 := fr2 _ e; have h2 := f2 _ e; omega)
  have own3'' := own3'.kept gr6 (by
    refine Classical.or_iff_not_imp_left.2 fun hne e => ?_
    have h1 := fr3 _ e; have h2 := f3 _ e; omega)
  have bl06 : Below w.heap.size w w6 := bl05.grown gr6 (by omega) (fun j hj => by cases hj; exact (own5.lt g5 rfl).1)
  have eZ : bytesOf zs ++ bytesOf [13] ++ bytesOf ys = bytesOf (zs ++ ([13] ++ (ys ++ []))) := by simp [bytesOf]
  rw [eZ] at own6
  have bO := (bd_of_own own2').1
  have bY := (bd_of_own own3'').1
  have b6 := (bd_of_own own6).1
  have b6l := (bd_of_own own6).2
  have b6c := own_cap own6
  clear own2 own3' own2' own3'' own5 own6 gr6 at6 at5' tx5 bl05 f2 f3 fr2 fr3 eZ s1 s2 s3 s5 hb1 hn1
  go_wp2_with fail
  refine (new_dec _ (l0 + 1 + l1) c6 _ w6 b6l b6c.1 b6c.2 b6).mono ?_
  rintro e w7 ⟨rfl, d7⟩
  clear b6 b6c b6l
  go_wp2_with fail
  refine (dec_pre w6 w7 zs _ l0 l0 rfl hz d7).mono ?_
  rintro e w8 ⟨a8, c8, rfl, b8, d8⟩
  go_wp2_with fail
  refine (same_bd w6 w8 a8 p2 l0 c8 l0 zs hz (by omega) b8 bO d8.below).mono ?_
  rintro e w9 ⟨rfl, n9, rfl⟩
  have d9 := d8.drewN n9
  clear d7 d8 b8 bO
  go_wp2_with fail
  refine (dec_pre w6 _ [13] _ 1 1 rfl rfl d9).mono ?_
  rintro e w10 ⟨a10, c10, rfl, b10, d10⟩
  obtain ⟨bb, oo, rfl, hcl⟩ := bd_at (b10.later d10.below) (by simp)
  have hc13 : w10.cell? ⟨bb, oo, none⟩ = some (.int .u8 13) := hcl 0 (by simp)
  clear hcl b10 d9
  go_wp2_with fail
  refine (dec_pre w6 w10 ys [] l1 l1 rfl hy d10).mono ?_
  rintro e w11 ⟨a11, c11, rfl, b11, d11⟩
  clear hc13
  go_wp2_with fail
  refine (same_bd w6 w11 a11 p3 l1 c11 l1 ys hy (by omega) b11 bY d11.below).mono ?_
  rintro e w12 ⟨rfl, n12, rfl⟩
  have d12 := d11.drewN n12
  clear d10 d11 b11 bY
  go_wp2_with fail
  refine (dec_err w6 _ _ _ d12).mono ?_
  rintro e w13 ⟨rfl, rfl⟩
  go_wp2_with fail
  refine (dec_rest w6 _ _ _ d12).mono ?_
  rintro e w14 ⟨a14, c14, rfl, -, rfl⟩
  go_wp2
  go_ret
  exact ⟨rfl, bl06.trans (d12.below.mono bl06.size)⟩

set_option maxRecDepth 100000 in
set_option maxHeartbeats 400000 in
theorem law5_no (a0 a1 : Option Addr) (l0 c0 l1 c1 : Nat) (w : World) (h : ¬ l0 + l1 ≤ 1048576) (h0 : l0 ≤ 9223372036854775807) (h1 : l1 ≤ 9223372036854775807) :
    Calls Try.prog 5 #[.slice a0 l0 c0, .slice a1 l1 c1] w fun e w' => e = .returned (.bool true) ∧ Below w.heap.size w w' := by
  go_enter Try.func5, Try.ntmps5
  go_wp2_with fail
  refine (bytes18_no a0 a1 l0 c0 l1 c1 w h h0 h1).mono ?_
  rintro e w0 ⟨rfl, rfl⟩
  go_wp2
  go_ret
  exact ⟨rfl, Below.refl _ _⟩

set_option maxRecDepth 100000 in
set_option maxHeartbeats 400000 in
theorem law5_long (a0 a1 : Option Addr) (l0 c0 l1 c1 : Nat) (w : World) (h : l0 + l1 ≤ 1048576) (h0 : ¬ l0 ≤ 524288 ∨ ¬ l1 ≤ 524288) :
    Calls Try.prog 5 #[.slice a0 l0 c0, .slice a1 l1 c1] w fun e w' => e = .returned (.bool true) ∧ Below w.heap.size w w' := by
  by_cases h2 : l0 ≤ 524288
  · have h3 : ¬ l1 ≤ 524288 := by omega
    clear h0
    go_enter Try.func5, Try.ntmps5
    go_wp2_with fail
    refine (bytes18_yes a0 a1 l0 c0 l1 c1 w h).mono ?_
    rintro e w0 ⟨rfl, rfl⟩
    go_wp2
    go_ret
    exact ⟨rfl, Below.refl _ _⟩
  · clear h0
    go_enter Try.func5, Try.ntmps5
    go_wp2_with fail
    refine (bytes18_yes a0 a1 l0 c0 l1 c1 w h).mono ?_
    rintro e w0 ⟨rfl, rfl⟩
    go_wp2
    go_ret
    exact ⟨rfl, Below.refl _ _⟩

theorem law5 (a0 a1 : Option Addr) (l0 c0 l1 c1 : Nat) (zs ys : List Int) (w : World) (hz : zs.length = l0) (hy : ys.length = l1) (h0 : l0 ≤ 9223372036854775807) (h1 : l1 ≤ 9223372036854775807) (hn0 : a0 = none → c0 = 0) (hn1 : a1 = none → c1 = 0) (hb0 : Bd w a0 zs) (hb1 : Bd w a1 ys) :
    Calls Try.prog 5 #[.slice a0 l0 c0, .slice a1 l1 c1] w fun e w' => e = .returned (.bool true) ∧ Below w.heap.size w w' := by
  by_cases h : l0 + l1 ≤ 1048576
  · by_cases h2 : l0 ≤ 524288 ∧ l1 ≤ 524288
    · exact law5_main a0 a1 l0 c0 l1 c1 zs ys w hz hy h2.1 h2.2 hn0 hn1 hb0 hb1
    · exact law5_long a0 a1 l0 c0 l1 c1 w h (by omega)
  · exact law5_no a0 a1 l0 c0 l1 c1 w h h0 h1
end Go.Proofs.Qxb6608695a
