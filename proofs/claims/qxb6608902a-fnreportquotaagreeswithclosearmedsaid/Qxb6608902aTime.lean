import Derived.Test.Qxb6608902aPtr
import Derived.Lib.EndianBits
import Derived.Deep.RegionHeld3
namespace Go.Proofs.Qxb6608902a
open Go.RowKit

theorem ret_k {k : IntKind} {a b : Int} (h : a = b) : Ending.returned (.int k a) = .returned (.int k b) := by rw [h]

/-- The bit that marks a reading of the monotonic clock is not set in a wall word of nanoseconds alone. -/
theorem and63 (x : Int) (h0 : 0 ≤ x) (h1 : x < 1073741824) : bits .and .u64 x 9223372036854775808 = 0 := by
  obtain ⟨a, rfl⟩ := Int.eq_ofNat_of_zero_le h0
  have ha : a < 1073741824 := by omega
  have h := (bits_nat .u64 64 (by decide) wraps_u64 a 9223372036854775808 (by omega) (by decide)).1
  have e : a &&& 9223372036854775808 = 0 := by
    apply Nat.eq_of_testBit_eq
    intro i
    rw [Nat.testBit_and, show (9223372036854775808 : Nat) = 2 ^ 63 from rfl, Nat.testBit_two_pow]
    by_cases hi : 63 = i
    · subst hi
      rw [Nat.testBit_lt_two_pow (show a < 2 ^ 63 by omega)]; simp
    · simp [hi]
  rw [e] at h
  exact h
theorem and30 (x : Int) (h0 : 0 ≤ x) (h1 : x < 1073741824) : bits .and .u64 x 1073741823 = x := by
  obtain ⟨a, rfl⟩ := Int.eq_ofNat_of_zero_le h0
  have ha : a < 1073741824 := by omega
  have h := (bits_nat .u64 64 (by decide) wraps_u64 a 1073741823 (by omega) (by decide)).1
  have e : a &&& 1073741823 = a := by
    rw [show (1073741823 : Nat) = 2 ^ 30 - 1 from rfl, Nat.and_two_pow_sub_one_eq_mod]
    exact Nat.mod_eq_of_lt ha
  rw [e] at h
  exact h
theorem andSelf (x : Int) (h0 : 0 ≤ x) (h1 : x < 1073741824) : bits .and .u64 x x = x := by
  obtain ⟨a, rfl⟩ := Int.eq_ofNat_of_zero_le h0
  have h := (bits_nat .u64 64 (by decide) wraps_u64 a a (by omega) (by omega)).1
  rw [Nat.and_self] at h
  exact h
theorem andZero (x : Int) (h0 : 0 ≤ x) (h1 : x < 1073741824) : bits .and .u64 x 0 = 0 := by
  obtain ⟨a, rfl⟩ := Int.eq_ofNat_of_zero_le h0
  have h := (bits_nat .u64 64 (by decide) wraps_u64 a 0 (by omega) (by decide)).1
  rw [Nat.and_zero] at h
  exact h
theorem or0 (x : Int) (h0 : 0 ≤ x) (h1 : x < 1073741824) : bits .or .u64 (bits .andNot .u64 0 1073741823) x = x := by
  obtain ⟨a, rfl⟩ := Int.eq_ofNat_of_zero_le h0
  have h := (bits_nat .u64 64 (by decide) wraps_u64 0 a (by decide) (by omega)).2
  have e0 : bits .andNot .u64 0 1073741823 = ((0 : Nat) : Int) := by decide +kernel
  rw [e0, h]
  simp
theorem not63 {x : Int} (h0 : 0 ≤ x) (h1 : x < 1073741824) : ¬ (bits .and .u64 x 9223372036854775808 != 0) = true := by
  rw [and63 x h0 h1]; simp

set_option maxHeartbeats 400000 in
theorem nsec55 (b o : Nat) (x : Int) (w : World) (hx : 0 ≤ x ∧ x < 1000000000) (h : w.cell? ⟨b, o, none⟩ = some (.int .u64 x)) :
    Calls Try.prog 55 #[.pointer (some ⟨b, o, none⟩)] w fun e w' => e = .returned (.int .i32 x) ∧ w' = w := by
  go_enter Try.func55, Try.ntmps55
  go_wp2
  go_ret
  refine ⟨ret_k ?_, rfl⟩
  rw [and30 x hx.1 (by omega)]
  unfold wrap32
  omega
set_option maxHeartbeats 400000 in
theorem sec64 (b o : Nat) (x y : Int) (w : World) (hx : 0 ≤ x ∧ x < 1000000000) (h : w.cell? ⟨b, o, none⟩ = some (.int .u64 x)) (h1 : w.cell? ⟨b, o + 1, none⟩ = some (.int .i64 y)) :
    Calls Try.prog 64 #[.pointer (some ⟨b, o, none⟩)] w fun e w' => e = .returned (.int .i64 y) ∧ w' = w := by
  have hn := not63 hx.1 (show x < 1073741824 by omega)
  have HN : Hid _ := hn
  clear hn
  go_enter Try.func64, Try.ntmps64
  go_wp2
  go_ret
  exact ⟨rfl, rfl⟩

/-- The second and the nanosecond of a Duration, as Time.Add tells them. -/
def secOf (d : Int) : Int := d / 1000000000
def nsOf (d : Int) : Int := d % 1000000000

set_option maxHeartbeats 1000000 in
theorem addSec56 (b : Nat) (x s : Int) (w : World) (hx : 0 ≤ x ∧ x < 1000000000) (hs : -9223372037 ≤ s ∧ s ≤ 9223372037) (h : w.cell? ⟨b, 0, none⟩ = some (.int .u64 x)) (h1 : w.cell? ⟨b, 1, none⟩ = some (.int .i64 0)) (hf : w.frozen? ⟨b, 1, none⟩ = false) :
    Calls Try.prog 56 #[.pointer (some ⟨b, 0, none⟩), .int .i64 s] w fun e w' => e = .returned (.tuple #[]) ∧ w' = w.setCell ⟨b, 1, none⟩ (.int .i64 s) := by
  have hn := not63 hx.1 (show x < 1073741824 by omega)
  have HN : Hid _ := hn
  clear hn
  by_cases hs0 : 0 < s
  · go_enter Try.func56, Try.ntmps56
    go_wp2
    go_end0
    exact ⟨rfl, by simp⟩
  · go_enter Try.func56, Try.ntmps56
    go_wp2
    go_end0
    exact ⟨rfl, by simp⟩

theorem blk2_cell (w : World) (A B : Array Value) (T U : TypeId) (j : Nat) (v : Value) (h : A[j]? = some v) : ((w.alloc (.cells A T)).alloc (.cells B U)).cell? ⟨w.heap.size, j, none⟩ = some v := by
  rw [cell_of_row _ _ _ _ _ _ (heap_alloc2_old w _ _)]; exact h

set_option maxRecDepth 100000 in
set_option maxHeartbeats 1000000 in
theorem add41_core (d q r : Int) (w : World) (hq : d.tdiv 1000000000 = q) (hr : d.tmod 1000000000 = r) (hq1 : -9223372037 ≤ q ∧ q ≤ 9223372037) (hr1 : 0 ≤ r ∧ r < 1000000000) :
    Calls Try.prog 41 #[.agg #[.int .u64 0, .int .i64 0, .pointer none], .int .i64 d] w fun e w' => e = .returned (.agg #[.int .u64 r, .int .i64 q, .pointer none]) ∧ Below w.heap.size w w' := by
  have ho := or0 r hr1.1 (by omega)
  have hn := not63 hr1.1 (show r < 1073741824 by omega)
  have HN : Hid _ := hn
  clear hn
  go_enter Try.func41, Try.ntmps41
  go_wp2_with fail
  refine (nsec55 _ 0 0 _ (by omega) (blk2_cell _ _ _ _ _ 0 _ rfl)).mono ?_
  rintro e w1 ⟨rfl, rfl⟩
  go_wp2_with fail
  refine (addSec56 w.heap.size r q _ hr1 hq1 (blk2_cell _ _ _ _ _ 0 _ rfl) (blk2_cell _ _ _ _ _ 1 _ rfl) (by simp [World.frozen?, heap_alloc2_old])).mono ?_
  rintro e w2 ⟨rfl, rfl⟩
  go_wp2_with fail
  exact bodyPost_ret (v := .agg #[.int .u64 r, .int .i64 q, .pointer none]) (by simp [results, Try.results41, go_sem]) rfl ⟨rfl, ((Below.refl _ _).alloc (by simp) _).alloc (by simp) _⟩

set_option maxRecDepth 100000 in
set_option maxHeartbeats 1000000 in
theorem add41_neg (d q r : Int) (w : World) (hq : d.tdiv 1000000000 = q) (hr : d.tmod 1000000000 = r) (hq1 : -9223372036 ≤ q ∧ q ≤ 9223372036) (hr1 : -1000000000 < r ∧ r < 0) :
    Calls Try.prog 41 #[.agg #[.int .u64 0, .int .i64 0, .pointer none], .int .i64 d] w fun e w' => e = .returned (.agg #[.int .u64 (r + 1000000000), .int .i64 (q - 1), .pointer none]) ∧ Below w.heap.size w w' := by
  have ho := or0 (r + 1000000000) (by omega) (by omega)
  have hn := not63 (x := r + 1000000000) (by omega) (by omega)
  have HN : Hid _ := hn
  clear hn
  go_enter Try.func41, Try.ntmps41
  go_wp2_with fail
  refine (nsec55 _ 0 0 _ (by omega) (blk2_cell _ _ _ _ _ 0 _ rfl)).mono ?_
  rintro e w1 ⟨rfl, rfl⟩
  go_wp2_with fail
  refine (addSec56 w.heap.size (r + 1000000000) (q - 1) _ (by omega) (by omega) (blk2_cell _ _ _ _ _ 0 _ rfl) (blk2_cell _ _ _ _ _ 1 _ rfl) (by simp [World.frozen?, heap_alloc2_old])).mono ?_
  rintro e w2 ⟨rfl, rfl⟩
  go_wp2_with fail
  exact bodyPost_ret (v := .agg #[.int .u64 (r + 1000000000), .int .i64 (q - 1), .pointer none]) (by simp [results, Try.results41, go_sem]) rfl ⟨rfl, ((Below.refl _ _).alloc (by simp) _).alloc (by simp) _⟩

/-- 'time.Time{}.Add(d)' -/
theorem add41 (d : Int) (w : World) (hd : -9223372036854775807 ≤ d ∧ d ≤ 9223372036854775807) :
    Calls Try.prog 41 #[.agg #[.int .u64 0, .int .i64 0, .pointer none], .int .i64 d] w fun e w' => e = .returned (.agg #[.int .u64 (nsOf d), .int .i64 (secOf d), .pointer none]) ∧ Below w.heap.size w w' := by
  have e1 := Int.mul_tdiv_add_tmod d 1000000000
  by_cases h : 0 ≤ d.tmod 1000000000
  · have hr1 : d.tmod 1000000000 < 1000000000 := Int.tmod_lt_of_pos d (by decide)
    have a1 : secOf d = d.tdiv 1000000000 := by unfold secOf; omega
    have a2 : nsOf d = d.tmod 1000000000 := by unfold nsOf; omega
    rw [a1, a2]
    exact add41_core d _ _ w rfl rfl (by omega) ⟨h, hr1⟩
  · have hr1 : -1000000000 < d.tmod 1000000000 := by
      have := Int.lt_tmod_of_pos d (show (0 : Int) < 1000000000 by decide); omega
    have hd0 : d < 0 := by
      refine Int.lt_of_not_ge fun h' => h ?_
      exact Int.tmod_nonneg _ h'
    have a1 : secOf d = d.tdiv 1000000000 - 1 := by unfold secOf; omega
    have a2 : nsOf d = d.tmod 1000000000 + 1000000000 := by unfold nsOf; omega
    rw [a1, a2]
    exact add41_neg d _ _ w rfl rfl (by omega) ⟨hr1, by omega⟩

theorem blk2_new (w : World) (A B : Array Value) (T U : TypeId) (j : Nat) (v : Value) (h : B[j]? = some v) : ((w.alloc (.cells A T)).alloc (.cells B U)).cell? ⟨w.heap.size + 1, j, none⟩ = some v := by
  rw [cell_of_row _ _ _ _ _ _ (heap_alloc2_new w _ _)]; exact h

set_option maxRecDepth 100000 in
set_option maxHeartbeats 1000000 in
theorem equal69 (x y : Int) (w : World) (hx : 0 ≤ x ∧ x < 1000000000) :
    Calls Try.prog 69 #[.agg #[.int .u64 x, .int .i64 y, .pointer none], .agg #[.int .u64 x, .int .i64 y, .pointer none]] w fun e w' => e = .returned (.bool true) ∧ Below w.heap.size w w' := by
  have hn := not63 hx.1 (show x < 1073741824 by omega)
  have HN : Hid _ := hn
  have hs := andSelf x hx.1 (by omega)
  clear hn
  go_enter Try.func69, Try.ntmps69
  go_wp2_with fail
  refine (sec64 w.heap.size 0 x y _ hx (blk2_cell _ _ _ _ _ 0 _ rfl) (blk2_cell _ _ _ _ _ 1 _ rfl)).mono ?_
  rintro e w1 ⟨rfl, rfl⟩
  go_wp2_with fail
  refine (sec64 (w.heap.size + 1) 0 x y _ hx (blk2_new _ _ _ _ _ 0 _ rfl) (blk2_new _ _ _ _ _ 1 _ rfl)).mono ?_
  rintro e w1 ⟨rfl, rfl⟩
  go_wp2_with fail
  refine (nsec55 w.heap.size 0 x _ hx (blk2_cell _ _ _ _ _ 0 _ rfl)).mono ?_
  rintro e w1 ⟨rfl, rfl⟩
  go_wp2_with fail
  refine (nsec55 (w.heap.size + 1) 0 x _ hx (blk2_new _ _ _ _ _ 0 _ rfl)).mono ?_
  rintro e w1 ⟨rfl, rfl⟩
  go_wp2
  go_ret
  exact ⟨by simp, ((Below.refl _ _).alloc (by simp) _).alloc (by simp) _⟩

set_option maxRecDepth 100000 in
set_option maxHeartbeats 1000000 in
theorem sub67 (d : Int) (w : World) (hd : -4611686018427387904 ≤ d ∧ d ≤ 4611686018427387904) :
    Calls Try.prog 67 #[.agg #[.int .u64 (nsOf d), .int .i64 (secOf d), .pointer none], .agg #[.int .u64 0, .int .i64 0, .pointer none]] w fun e w' => e = .returned (.int .i64 d) ∧ Below w.heap.size w w' := by
  have hx : 0 ≤ nsOf d ∧ nsOf d < 1000000000 := by unfold nsOf; omega
  have hs : -4611686019 ≤ secOf d ∧ secOf d ≤ 4611686019 := by unfold secOf; omega
  have hsum : secOf d * 1000000000 + nsOf d = d := by unfold secOf nsOf; omega
  have hz := andZero (nsOf d) hx.1 (by omega)
  have hn := not63 (x := 0) (by omega) (by omega)
  have HN : Hid _ := hn
  have hadd : Hid (∀ W, Calls Try.prog 41 #[.agg #[.int .u64 0, .int .i64 0, .pointer none], .int .i64 d] W fun e w' => e = .returned (.agg #[.int .u64 (nsOf d), .int .i64 (secOf d), .pointer none]) ∧ Below W.heap.size W w') := fun W => add41 d W (by omega)
  generalize nsOf d = x at *
  generalize secOf d = y at *
  clear hn
  go_enter Try.func67, Try.ntmps67
  go_wp2_with fail
  refine (sec64 w.heap.size 0 x y _ hx (blk2_cell _ _ _ _ _ 0 _ rfl) (blk2_cell _ _ _ _ _ 1 _ rfl)).mono ?_
  rintro e w1 ⟨rfl, rfl⟩
  go_wp2_with fail
  refine (sec64 (w.heap.size + 1) 0 0 0 _ (by omega) (blk2_new _ _ _ _ _ 0 _ rfl) (blk2_new _ _ _ _ _ 1 _ rfl)).mono ?_
  rintro e w1 ⟨rfl, rfl⟩
  go_wp2_with fail
  refine (nsec55 w.heap.size 0 x _ hx (blk2_cell _ _ _ _ _ 0 _ rfl)).mono ?_
  rintro e w1 ⟨rfl, rfl⟩
  go_wp2_with fail
  refine (nsec55 (w.heap.size + 1) 0 0 _ (by omega) (blk2_new _ _ _ _ _ 0 _ rfl)).mono ?_
  rintro e w1 ⟨rfl, rfl⟩
  have k0 := blk2_cell w #[.int .u64 x, .int .i64 y, .pointer none] #[.int .u64 0, .int .i64 0, .pointer none] 112 112 0 _ rfl
  have k1 := blk2_cell w #[.int .u64 x, .int .i64 y, .pointer none] #[.int .u64 0, .int .i64 0, .pointer none] 112 112 1 _ rfl
  have k2 := blk2_cell w #[.int .u64 x, .int .i64 y, .pointer none] #[.int .u64 0, .int .i64 0, .pointer none] 112 112 2 _ rfl
  have z0 := blk2_new w #[.int .u64 x, .int .i64 y, .pointer none] #[.int .u64 0, .int .i64 0, .pointer none] 112 112 0 _ rfl
  have z1 := blk2_new w #[.int .u64 x, .int .i64 y, .pointer none] #[.int .u64 0, .int .i64 0, .pointer none] 112 112 1 _ rfl
  have z2 := blk2_new w #[.int .u64 x, .int .i64 y, .pointer none] #[.int .u64 0, .int .i64 0, .pointer none] 112 112 2 _ rfl
  have bel : Below w.heap.size w ((w.alloc (.cells #[.int .u64 x, .int .i64 y, .pointer none] 112)).alloc (.cells #[.int .u64 0, .int .i64 0, .pointer none] 112)) := ((Below.refl _ _).alloc (by simp) _).alloc (by simp) _
  have hsz : w.heap.size ≤ ((w.alloc (.cells #[.int .u64 x, .int .i64 y, .pointer none] 112)).alloc (.cells #[.int .u64 0, .int .i64 0, .pointer none] 112)).heap.size := bel.size
  generalize ((w.alloc (.cells #[.int .u64 x, .int .i64 y, .pointer none] 112)).alloc (.cells #[.int .u64 0, .int .i64 0, .pointer none] 112)) = W at *
  go_wp2_with fail
  go_region_held3 (fun w' => w'.cell? ⟨w.heap.size, 0, none⟩ = some (.int .u64 x) ∧ w'.cell? ⟨w.heap.size, 1, none⟩ = some (.int .i64 y) ∧ w'.cell? ⟨w.heap.size, 2, none⟩ = some (.pointer none) ∧ w'.cell? ⟨w.heap.size + 1, 0, none⟩ = some (.int .u64 0) ∧ w'.cell? ⟨w.heap.size + 1, 1, none⟩ = some (.int .i64 0) ∧ w'.cell? ⟨w.heap.size + 1, 2, none⟩ = some (.pointer none))
    (first | go_keep | (go_split_ands; refine ⟨?_, ?_, ?_, ?_, ?_, ?_⟩ <;> exact cell_later (by assumption) (by assumption)))
    ((first
    | (go_at_call 41; refine (Hid.out hadd _).mono ?_; rintro e w5 ⟨rfl, h5⟩)
    | (go_at_call 69; refine (equal69 x y _ hx).mono ?_; rintro e w6 ⟨rfl, h6⟩)))
  all_goals go_wp2
  go_ret
  exact ⟨rfl, bel.trans (Below.trans ⟨h5.os, h5.tape, h5.output, h5.size, fun k hk => h5.block k (Nat.lt_of_lt_of_le hk hsz)⟩ (h6.mono (Nat.le_trans hsz h5.size)))⟩

set_option maxRecDepth 100000 in
set_option maxHeartbeats 1000000 in
theorem inst63 (S : Nat) (d : Int) (w : World) (hd : -4611686018427387904 ≤ d ∧ d ≤ 4611686018427387904)
    (h0 : w.cell? ⟨S, 0, none⟩ = some (.int .u64 0)) (h1 : w.cell? ⟨S, 1, none⟩ = some (.int .i64 0)) (h2 : w.cell? ⟨S, 2, none⟩ = some (.pointer none)) :
    Calls Try.prog 63 #[.pointer (some ⟨S, 0, none⟩), .agg #[.int .u64 (nsOf d), .int .i64 (secOf d), .pointer none]] w fun e w' => e = .returned (.int .i64 d) ∧ Below w.heap.size w w' := by
  have hsub : Hid (∀ W, Calls Try.prog 67 #[.agg #[.int .u64 (nsOf d), .int .i64 (secOf d), .pointer none], .agg #[.int .u64 0, .int .i64 0, .pointer none]] W fun e w' => e = .returned (.int .i64 d) ∧ Below W.heap.size W w') := fun W => sub67 d W hd
  generalize nsOf d = x at *
  generalize secOf d = y at *
  have a0 := cell_later (show Below w.heap.size w (w.alloc (.cells #[.int .u64 x, .int .i64 y, .pointer none] 112)) from (Below.refl _ _).alloc (Nat.le_refl _) _) h0
  have a1 := cell_later (show Below w.heap.size w (w.alloc (.cells #[.int .u64 x, .int .i64 y, .pointer none] 112)) from (Below.refl _ _).alloc (Nat.le_refl _) _) h1
  have a2 := cell_later (show Below w.heap.size w (w.alloc (.cells #[.int .u64 x, .int .i64 y, .pointer none] 112)) from (Below.refl _ _).alloc (Nat.le_refl _) _) h2
  have k0 : (w.alloc (.cells #[.int .u64 x, .int .i64 y, .pointer none] 112)).cell? ⟨w.heap.size, 0, none⟩ = some (.int .u64 x) := by rw [cell_of_row _ _ 0 _ _ _ (heap_alloc_new w _)]; rfl
  have k1 : (w.alloc (.cells #[.int .u64 x, .int .i64 y, .pointer none] 112)).cell? ⟨w.heap.size, 1, none⟩ = some (.int .i64 y) := by rw [cell_of_row _ _ 1 _ _ _ (heap_alloc_new w _)]; rfl
  have k2 : (w.alloc (.cells #[.int .u64 x, .int .i64 y, .pointer none] 112)).cell? ⟨w.heap.size, 2, none⟩ = some (.pointer none) := by rw [cell_of_row _ _ 2 _ _ _ (heap_alloc_new w _)]; rfl
  have bel : Below w.heap.size w (w.alloc (.cells #[.int .u64 x, .int .i64 y, .pointer none] 112)) := (Below.refl _ _).alloc (by simp) _
  clear h0 h1 h2 hd
  go_enter Try.func63, Try.ntmps63
  go_wp2_with fail
  generalize (w.alloc (.cells #[.int .u64 x, .int .i64 y, .pointer none] 112)) = W at *
  go_region_held3 (fun w' => w'.cell? ⟨w.heap.size, 0, none⟩ = some (.int .u64 x) ∧ w'.cell? ⟨w.heap.size, 1, none⟩ = some (.int .i64 y) ∧ w'.cell? ⟨w.heap.size, 2, none⟩ = some (.pointer none) ∧ w'.cell? ⟨S, 0, none⟩ = some (.int .u64 0) ∧ w'.cell? ⟨S, 1, none⟩ = some (.int .i64 0) ∧ w'.cell? ⟨S, 2, none⟩ = some (.pointer none))
    (first | go_keep | (go_split_ands; refine ⟨?_, ?_, ?_, ?_, ?_, ?_⟩ <;> exact cell_later (by assumption) (by assumption)))
    ((first | (go_at_call 67; refine (Hid.out hsub _).mono ?_; rintro e w5 ⟨rfl, h5⟩)))
  all_goals go_wp2
  go_ret
  exact ⟨rfl, bel.trans ⟨h5.os, h5.tape, h5.output, h5.size, fun k hk => h5.block k (Nat.lt_of_lt_of_le hk bel.size)⟩⟩
end Go.Proofs.Qxb6608902a
