import Derived.Test.Qxb6608902aPtr
import Derived.Deep.RegionHeld3
namespace Go.Proofs.Qxb6608902a
open Go.RowKit

/-- The order of two numbers as Go's comparing functions tell it. -/
def cmpI (a b : Int) : Int := if a < b then -1 else if b < a then 1 else 0

theorem ret_i {k : IntKind} {a b : Int} (h : a = b) : Ending.returned (.int k a) = .returned (.int k b) := by rw [h]

set_option maxHeartbeats 400000 in
theorem nan66 (a : Int) (w : World) : Calls Try.prog 66 #[.int .u32 a] w fun e w' => e = .returned (.bool false) ∧ w' = w := by
  go_enter Try.func66, Try.ntmps66
  go_wp2
  go_ret
  simp

set_option maxHeartbeats 400000 in
theorem cmp59 (a b : Int) (w : World) : Calls Try.prog 59 #[.int .u32 a, .int .u32 b] w fun e w' => e = .returned (.int .i64 (cmpI a b)) ∧ w' = w := by
  by_cases h1 : a < b
  · have e : cmpI a b = -1 := by simp [cmpI, h1]
    rw [e]; clear e
    go_enter Try.func59, Try.ntmps59
    go_wp2_with (go_at_call 66; refine (nan66 _ _).mono ?_; rintro e w' ⟨rfl, rfl⟩)
    go_ret
    exact ⟨rfl, rfl⟩
  · by_cases h2 : b < a
    · have e : cmpI a b = 1 := by simp [cmpI, h1, h2]
      rw [e]; clear e
      go_enter Try.func59, Try.ntmps59
      go_wp2_with (go_at_call 66; refine (nan66 _ _).mono ?_; rintro e w' ⟨rfl, rfl⟩)
      go_ret
      exact ⟨rfl, rfl⟩
    · have e : cmpI a b = 0 := by simp [cmpI, h1, h2]
      rw [e]; clear e
      go_enter Try.func59, Try.ntmps59
      go_wp2_with (go_at_call 66; refine (nan66 _ _).mono ?_; rintro e w' ⟨rfl, rfl⟩)
      go_ret
      exact ⟨rfl, rfl⟩

set_option maxHeartbeats 400000 in
theorem cmp11 (a b : Int) (w : World) : Calls Try.prog 11 #[.int .u64 a, .int .u64 b] w fun e w' => e = .returned (.int .i64 (cmpI a b)) ∧ w' = w := by
  by_cases h1 : a < b
  · have e : cmpI a b = -1 := by simp [cmpI, h1]
    rw [e]; clear e
    go_enter Try.func11, Try.ntmps11
    go_wp2
    go_ret
    exact ⟨rfl, rfl⟩
  · by_cases h2 : b < a
    · have e : cmpI a b = 1 := by simp [cmpI, h1, h2]
      rw [e]; clear e
      go_enter Try.func11, Try.ntmps11
      go_wp2
      go_ret
      exact ⟨rfl, rfl⟩
    · have e : cmpI a b = 0 := by simp [cmpI, h1, h2]
      rw [e]; clear e
      go_enter Try.func11, Try.ntmps11
      go_wp2
      go_ret
      exact ⟨rfl, rfl⟩

/-- none before any, then by value -/
def svcCmp (a : Int) (s : Bool) (b : Int) (t : Bool) : Int := if s = t then cmpI a b else if s then 1 else -1

set_option maxHeartbeats 1000000 in
theorem svc50 (a b : Int) (s t : Bool) (w : World) : Calls Try.prog 50 #[.agg #[.int .u32 a, .bool s], .agg #[.int .u32 b, .bool t]] w fun e w' => e = .returned (.int .i64 (svcCmp a s b t)) ∧ Below w.heap.size w w' := by
  cases s <;> cases t
  all_goals
    simp only [svcCmp, reduceCtorEq, if_true, if_false]
    go_enter Try.func50, Try.ntmps50
    go_wp2_with (go_at_call 59; refine (cmp59 _ _ _).mono ?_; rintro e w' ⟨rfl, rfl⟩)
    go_ret
    exact ⟨rfl, ((Below.refl _ _).alloc (Nat.le_refl _) _).alloc (by simp) _⟩

set_option maxHeartbeats 400000 in
theorem key7 (a m : Int) (s : Bool) (w : World) : Calls Try.prog 7 #[.agg #[.int .u32 a, .bool s], .int .u8 m] w fun e w' => e = .returned (.agg #[.int .u32 a, .bool s, .int .u8 m]) ∧ Below w.heap.size w w' := by
  go_enter Try.func7, Try.ntmps7
  go_wp2
  exact bodyPost_ret (v := .agg #[.int .u32 a, .bool s, .int .u8 m]) (by simp [results, Try.results7, go_sem]) rfl ⟨rfl, ((Below.refl _ _).alloc (Nat.le_refl _) _).alloc (by simp) _⟩

set_option maxHeartbeats 400000 in
theorem rule10 (a b m : Int) (s c t : Bool) (w : World) : Calls Try.prog 10 #[.agg #[.int .u32 a, .bool s], .bool c, .agg #[.int .u32 b, .bool t, .int .u8 m]] w fun e w' => e = .returned (.agg #[.int .u32 a, .bool s, .bool c, .int .u32 b, .bool t, .int .u8 m]) ∧ Below w.heap.size w w' := by
  go_enter Try.func10, Try.ntmps10
  go_wp2
  exact bodyPost_ret (v := .agg #[.int .u32 a, .bool s, .bool c, .int .u32 b, .bool t, .int .u8 m]) (by simp [results, Try.results10, go_sem]) rfl ⟨rfl, (((Below.refl _ _).alloc (Nat.le_refl _) _).alloc (by simp) _).alloc (by simp; omega) _⟩

set_option maxHeartbeats 400000 in
theorem cmp28 (a b m a2 : Int) (s c t s2 : Bool) (w : World) : Calls Try.prog 28 #[.agg #[.int .u32 a, .bool s, .bool c, .int .u32 b, .bool t, .int .u8 m], .agg #[.int .u32 a2, .bool s2]] w fun e w' => e = .returned (.int .i64 (svcCmp a s a2 s2)) ∧ Below w.heap.size w w' := by
  go_enter Try.func28, Try.ntmps28
  go_wp2_with fail
  refine (svc50 a a2 s s2 _).mono ?_
  rintro e w1 ⟨rfl, h1⟩
  go_wp2
  go_ret
  exact ⟨rfl, (((Below.refl _ _).alloc (Nat.le_refl _) _).alloc (by simp) _).trans (h1.mono (by simp; omega))⟩

set_option maxHeartbeats 400000 in
theorem cmp9 (a b m a2 : Int) (s c t s2 : Bool) (w : World) : Calls Try.prog 9 #[.agg #[.int .u32 a, .bool s, .bool c, .int .u32 b, .bool t, .int .u8 m], .agg #[.int .u32 a2, .bool s2]] w fun e w' => e = .returned (.int .i64 (svcCmp a s a2 s2)) ∧ Below w.heap.size w w' := by
  go_enter Try.func9, Try.ntmps9
  go_wp2_with fail
  refine (cmp28 a b m a2 s c t s2 _).mono ?_
  rintro e w1 ⟨rfl, h1⟩
  go_wp2
  go_ret
  exact ⟨rfl, (((Below.refl _ _).alloc (Nat.le_refl _) _).alloc (by simp) _).trans (h1.mono (by simp; omega))⟩

theorem two_cells {w : World} {g : Nat} {a b : Value} {T : TypeId} (h : w.heap[g]? = some (.cells #[a, b] T)) : w.cell? ⟨g, 0, none⟩ = some a ∧ w.cell? ⟨g, 1, none⟩ = some b :=
  ⟨by rw [cell_of_row _ _ 0 _ _ _ h]; rfl, by rw [cell_of_row _ _ 1 _ _ _ h]; rfl⟩

set_option maxRecDepth 100000 in
set_option maxHeartbeats 1000000 in
theorem law5_ff (a b : Int) (w : World) : Calls Try.prog 5 #[.int .u32 a, .bool false, .int .u32 b, .bool false] w fun e w' => e = .returned (.bool true) ∧ Below w.heap.size w w' := by
  go_enter Try.func5, Try.ntmps5
  go_wp2_with fail
  refine (svc8 a false w).mono ?_
  rintro e w1 ⟨rfl, h1⟩
  have s1 := h1.size
  go_wp2_with fail
  refine (svc8 b false _).mono ?_
  rintro e w2 ⟨rfl, h2⟩
  have k1 : w2.heap[w1.heap.size]? = some (.cells #[.int .u32 a, .bool false] 24) := (h2.block _ (by simp)).trans (heap_alloc_new _ _)
  have b2 : Below w.heap.size w w2 := (h1.alloc s1 _).trans (h2.mono (by simp; omega))
  have s2 : w1.heap.size < w2.heap.size := by have := h2.size; simp at this; omega
  have k1' := (Below.heap_alloc w2 (.cells #[.int .u32 b, .bool false] 24) _ s2).trans k1
  obtain ⟨c0, c1⟩ := two_cells k1'
  clear h1 h2 k1
  go_wp2_with fail
  refine (ptr_no a _).mono ?_
  rintro e w3 ⟨rfl, h3⟩
  obtain ⟨d0, d1⟩ := box2 h3
  have b3 : Below w.heap.size w w3 := (b2.alloc (by omega) _).trans (h3.mono (by simp; omega))
  have s3 := h3.size
  simp at s3
  have c0' := (h3.cell (p := ⟨w1.heap.size, 0, none⟩) (by simp; omega)).trans c0
  have c1' := (h3.cell (p := ⟨w1.heap.size, 1, none⟩) (by simp; omega)).trans c1
  clear c0 c1 h3 k1'
  go_wp2_with fail
  refine (ptr_no b _).mono ?_
  rintro e w4 ⟨rfl, h4⟩
  have b4 : Below w.heap.size w w4 := b3.trans (h4.mono (by omega))
  go_wp2
  go_ret
  exact ⟨rfl, b4⟩

set_option maxRecDepth 100000 in
set_option maxHeartbeats 1000000 in
theorem law5_ft (a b : Int) (w : World) : Calls Try.prog 5 #[.int .u32 a, .bool false, .int .u32 b, .bool true] w fun e w' => e = .returned (.bool true) ∧ Below w.heap.size w w' := by
  go_enter Try.func5, Try.ntmps5
  go_wp2_with fail
  refine (svc8 a false w).mono ?_
  rintro e w1 ⟨rfl, h1⟩
  have s1 := h1.size
  go_wp2_with fail
  refine (svc8 b true _).mono ?_
  rintro e w2 ⟨rfl, h2⟩
  have k1 : w2.heap[w1.heap.size]? = some (.cells #[.int .u32 a, .bool false] 24) := (h2.block _ (by simp)).trans (heap_alloc_new _ _)
  have b2 : Below w.heap.size w w2 := (h1.alloc s1 _).trans (h2.mono (by simp; omega))
  have s2 : w1.heap.size < w2.heap.size := by have := h2.size; simp at this; omega
  have k1' := (Below.heap_alloc w2 (.cells #[.int .u32 b, .bool true] 24) _ s2).trans k1
  obtain ⟨c0, c1⟩ := two_cells k1'
  clear h1 h2 k1
  go_wp2_with fail
  refine (ptr_no a _).mono ?_
  rintro e w3 ⟨rfl, h3⟩
  obtain ⟨d0, d1⟩ := box2 h3
  have b3 : Below w.heap.size w w3 := (b2.alloc (by omega) _).trans (h3.mono (by simp; omega))
  have s3 := h3.size
  simp at s3
  have c0' := (h3.cell (p := ⟨w1.heap.size, 0, none⟩) (by simp; omega)).trans c0
  have c1' := (h3.cell (p := ⟨w1.heap.size, 1, none⟩) (by simp; omega)).trans c1
  clear c0 c1 h3 k1'
  go_wp2_with fail
  refine (ptr_yes b _).mono ?_
  rintro e w4 ⟨gb, rfl, hgb, hgbc, h4⟩
  have b4 : Below w.heap.size w w4 := b3.trans (h4.mono (by omega))
  have s4 := h4.size
  have e0 := (h4.cell (p := ⟨w1.heap.size, 0, none⟩) (by simp; omega)).trans c0'
  have e1 := (h4.cell (p := ⟨w1.heap.size, 1, none⟩) (by simp; omega)).trans c1'
  have f0 := (h4.cell (p := ⟨w2.heap.size, 0, none⟩) (by simp; omega)).trans d0
  have f1 := (h4.cell (p := ⟨w2.heap.size, 1, none⟩) (by simp; omega)).trans d1
  have vb := (one_cell hgbc).1
  clear c0' c1' d0 d1 h4 b3 hgb hgbc
  go_upto_region 13 with fail
  go_cut [13] (fun t wr => t = .int .i64 (svcCmp a false b true) ∧ Below w4.heap.size w4 wr)
  case first =>
    go_region_held3 (fun w' => w'.cell? ⟨w1.heap.size, 0, none⟩ = some (.int .u32 a) ∧ w'.cell? ⟨w1.heap.size, 1, none⟩ = some (.bool false) ∧ w'.cell? ⟨w2.heap.size, 0, none⟩ = some (.int .u32 b) ∧ w'.cell? ⟨w2.heap.size, 1, none⟩ = some (.bool true))
      (first | go_keep | (go_split_ands; refine ⟨?_, ?_, ?_, ?_⟩ <;> exact cell_later (by assumption) (by assumption)))
      ((first
      | (go_at_call 7; refine (key7 a 0 false _).mono ?_; rintro e w5 ⟨rfl, h5⟩)
      | (go_at_call 10; refine (rule10 a a 0 false true false _).mono ?_; rintro e w6 ⟨rfl, h6⟩)
      | (go_at_call 9; refine (cmp9 a a 0 b false true false true _).mono ?_; rintro e w7 ⟨rfl, h7⟩)))
    all_goals go_wp2_with fail
    go_meet
    case rel => exact ⟨rfl, Below.trans ⟨h5.os, h5.tape, h5.output, h5.size, h5.block⟩ ((h6.mono h5.size).trans (h7.mono (Nat.le_trans h5.size h6.size)))⟩
  case rest =>
  obtain ⟨rfl, bc⟩ := hcut
  have bw : Below w.heap.size w wc := b4.trans (bc.mono b4.size)
  have ec : svcCmp a false b true = -1 := by simp [svcCmp]
  rw [ec]
  go_wp2
  go_ret
  exact ⟨rfl, bw⟩

set_option maxRecDepth 100000 in
set_option maxHeartbeats 1000000 in
theorem law5_tf (a b : Int) (w : World) : Calls Try.prog 5 #[.int .u32 a, .bool true, .int .u32 b, .bool false] w fun e w' => e = .returned (.bool true) ∧ Below w.heap.size w w' := by
  go_enter Try.func5, Try.ntmps5
  go_wp2_with fail
  refine (svc8 a true w).mono ?_
  rintro e w1 ⟨rfl, h1⟩
  have s1 := h1.size
  go_wp2_with fail
  refine (svc8 b false _).mono ?_
  rintro e w2 ⟨rfl, h2⟩
  have k1 : w2.heap[w1.heap.size]? = some (.cells #[.int .u32 a, .bool true] 24) := (h2.block _ (by simp)).trans (heap_alloc_new _ _)
  have b2 : Below w.heap.size w w2 := (h1.alloc s1 _).trans (h2.mono (by simp; omega))
  have s2 : w1.heap.size < w2.heap.size := by have := h2.size; simp at this; omega
  have k1' := (Below.heap_alloc w2 (.cells #[.int .u32 b, .bool false] 24) _ s2).trans k1
  obtain ⟨c0, c1⟩ := two_cells k1'
  clear h1 h2 k1
  go_wp2_with fail
  refine (ptr_yes a _).mono ?_
  rintro e w3 ⟨ga, rfl, hga, hgac, h3⟩
  obtain ⟨d0, d1⟩ := box2 h3
  have b3 : Below w.heap.size w w3 := (b2.alloc (by omega) _).trans (h3.mono (by simp; omega))
  have s3 := h3.size
  simp at s3
  have c0' := (h3.cell (p := ⟨w1.heap.size, 0, none⟩) (by simp; omega)).trans c0
  have c1' := (h3.cell (p := ⟨w1.heap.size, 1, none⟩) (by simp; omega)).trans c1
  clear c0 c1 h3 k1'
  go_wp2_with fail
  refine (ptr_no b _).mono ?_
  rintro e w4 ⟨rfl, h4⟩
  have b4 : Below w.heap.size w w4 := b3.trans (h4.mono (by omega))
  have s4 := h4.size
  have e0 := (h4.cell (p := ⟨w1.heap.size, 0, none⟩) (by simp; omega)).trans c0'
  have e1 := (h4.cell (p := ⟨w1.heap.size, 1, none⟩) (by simp; omega)).trans c1'
  have f0 := (h4.cell (p := ⟨w2.heap.size, 0, none⟩) (by simp; omega)).trans d0
  have f1 := (h4.cell (p := ⟨w2.heap.size, 1, none⟩) (by simp; omega)).trans d1
  have va := (one_cell ((h4.block _ (heap_lt hgac)).trans hgac)).1
  clear c0' c1' d0 d1 h4 b3 hga hgac
  go_upto_region 13 with fail
  go_cut [13] (fun t wr => t = .int .i64 (svcCmp a true b false) ∧ Below w4.heap.size w4 wr)
  case first =>
    go_region_held3 (fun w' => w'.cell? ⟨w1.heap.size, 0, none⟩ = some (.int .u32 a) ∧ w'.cell? ⟨w1.heap.size, 1, none⟩ = some (.bool true) ∧ w'.cell? ⟨w2.heap.size, 0, none⟩ = some (.int .u32 b) ∧ w'.cell? ⟨w2.heap.size, 1, none⟩ = some (.bool false))
      (first | go_keep | (go_split_ands; refine ⟨?_, ?_, ?_, ?_⟩ <;> exact cell_later (by assumption) (by assumption)))
      ((first
      | (go_at_call 7; refine (key7 a 0 true _).mono ?_; rintro e w5 ⟨rfl, h5⟩)
      | (go_at_call 10; refine (rule10 a a 0 true true true _).mono ?_; rintro e w6 ⟨rfl, h6⟩)
      | (go_at_call 9; refine (cmp9 a a 0 b true true true false _).mono ?_; rintro e w7 ⟨rfl, h7⟩)))
    all_goals go_wp2_with fail
    go_meet
    case rel => exact ⟨rfl, Below.trans ⟨h5.os, h5.tape, h5.output, h5.size, h5.block⟩ ((h6.mono h5.size).trans (h7.mono (Nat.le_trans h5.size h6.size)))⟩
  case rest =>
  obtain ⟨rfl, bc⟩ := hcut
  have bw : Below w.heap.size w wc := b4.trans (bc.mono b4.size)
  have ec : svcCmp a true b false = 1 := by simp [svcCmp]
  rw [ec]
  go_wp2
  go_ret
  exact ⟨rfl, bw⟩

set_option maxRecDepth 100000 in
set_option maxHeartbeats 1000000 in
theorem law5_tt (a b : Int) (ha : 0 ≤ a ∧ a < 4294967296) (hb : 0 ≤ b ∧ b < 4294967296) (w : World) : Calls Try.prog 5 #[.int .u32 a, .bool true, .int .u32 b, .bool true] w fun e w' => e = .returned (.bool true) ∧ Below w.heap.size w w' := by
  go_enter Try.func5, Try.ntmps5
  go_wp2_with fail
  refine (svc8 a true w).mono ?_
  rintro e w1 ⟨rfl, h1⟩
  have s1 := h1.size
  go_wp2_with fail
  refine (svc8 b true _).mono ?_
  rintro e w2 ⟨rfl, h2⟩
  have k1 : w2.heap[w1.heap.size]? = some (.cells #[.int .u32 a, .bool true] 24) := (h2.block _ (by simp)).trans (heap_alloc_new _ _)
  have b2 : Below w.heap.size w w2 := (h1.alloc s1 _).trans (h2.mono (by simp; omega))
  have s2 : w1.heap.size < w2.heap.size := by have := h2.size; simp at this; omega
  have k1' := (Below.heap_alloc w2 (.cells #[.int .u32 b, .bool true] 24) _ s2).trans k1
  obtain ⟨c0, c1⟩ := two_cells k1'
  clear h1 h2 k1
  go_wp2_with fail
  refine (ptr_yes a _).mono ?_
  rintro e w3 ⟨ga, rfl, hga, hgac, h3⟩
  obtain ⟨d0, d1⟩ := box2 h3
  have b3 : Below w.heap.size w w3 := (b2.alloc (by omega) _).trans (h3.mono (by simp; omega))
  have s3 := h3.size
  simp at s3
  have c0' := (h3.cell (p := ⟨w1.heap.size, 0, none⟩) (by simp; omega)).trans c0
  have c1' := (h3.cell (p := ⟨w1.heap.size, 1, none⟩) (by simp; omega)).trans c1
  clear c0 c1 h3 k1'
  go_wp2_with fail
  refine (ptr_yes b _).mono ?_
  rintro e w4 ⟨gb, rfl, hgb, hgbc, h4⟩
  have b4 : Below w.heap.size w w4 := b3.trans (h4.mono (by omega))
  have s4 := h4.size
  have e0 := (h4.cell (p := ⟨w1.heap.size, 0, none⟩) (by simp; omega)).trans c0'
  have e1 := (h4.cell (p := ⟨w1.heap.size, 1, none⟩) (by simp; omega)).trans c1'
  have f0 := (h4.cell (p := ⟨w2.heap.size, 0, none⟩) (by simp; omega)).trans d0
  have f1 := (h4.cell (p := ⟨w2.heap.size, 1, none⟩) (by simp; omega)).trans d1
  have va := (one_cell ((h4.block _ (heap_lt hgac)).trans hgac)).1
  have vb := (one_cell hgbc).1
  clear c0' c1' d0 d1 h4 b3 hga hgac hgb hgbc
  go_upto_region 13 with fail
  go_cut [13] (fun t wr => t = .int .i64 (svcCmp a true b true) ∧ Below w4.heap.size w4 wr)
  case first =>
    go_region_held3 (fun w' => w'.cell? ⟨w1.heap.size, 0, none⟩ = some (.int .u32 a) ∧ w'.cell? ⟨w1.heap.size, 1, none⟩ = some (.bool true) ∧ w'.cell? ⟨w2.heap.size, 0, none⟩ = some (.int .u32 b) ∧ w'.cell? ⟨w2.heap.size, 1, none⟩ = some (.bool true))
      (first | go_keep | (go_split_ands; refine ⟨?_, ?_, ?_, ?_⟩ <;> exact cell_later (by assumption) (by assumption)))
      ((first
      | (go_at_call 7; refine (key7 a 0 true _).mono ?_; rintro e w5 ⟨rfl, h5⟩)
      | (go_at_call 10; refine (rule10 a a 0 true true true _).mono ?_; rintro e w6 ⟨rfl, h6⟩)
      | (go_at_call 9; refine (cmp9 a a 0 b true true true true _).mono ?_; rintro e w7 ⟨rfl, h7⟩)))
    all_goals go_wp2_with fail
    go_meet
    case rel => exact ⟨rfl, Below.trans ⟨h5.os, h5.tape, h5.output, h5.size, h5.block⟩ ((h6.mono h5.size).trans (h7.mono (Nat.le_trans h5.size h6.size)))⟩
  case rest =>
  obtain ⟨rfl, bc⟩ := hcut
  have bw : Below w.heap.size w wc := b4.trans (bc.mono b4.size)
  have va' := cell_later bc va
  have vb' := cell_later bc vb
  have ua : IntKind.u64.wrap a = a := by rw [IntKind.wrap_u64]; omega
  have ub : IntKind.u64.wrap b = b := by rw [IntKind.wrap_u64]; omega
  have ec : svcCmp a true b true = cmpI a b := by simp [svcCmp]
  rw [ec]
  clear va vb e0 e1 f0 f1 bc b4 ec
  go_wp2_with fail
  go_quiet ((go_at_call 11; exact Calls.quiet_of_same (cmp11 _ _ _)))
  go_wp2
  go_ret
  exact ⟨by simp, below_drewN bw _⟩

theorem law5 (a b : Int) (s t : Bool) (ha : (Lit.int .u32 a).wf = true) (hb : (Lit.int .u32 b).wf = true) (w : World) : Calls Try.prog 5 #[.int .u32 a, .bool s, .int .u32 b, .bool t] w fun e w' => e = .returned (.bool true) ∧ Below w.heap.size w w' := by
  have ra : 0 ≤ a ∧ a < 4294967296 := by
    simp [Lit.wf, IntKind.min, IntKind.max, IntKind.signed, IntKind.bits] at ha; omega
  have rb : 0 ≤ b ∧ b < 4294967296 := by
    simp [Lit.wf, IntKind.min, IntKind.max, IntKind.signed, IntKind.bits] at hb; omega
  cases s <;> cases t
  · exact law5_ff a b w
  · exact law5_ft a b w
  · exact law5_tf a b w
  · exact law5_tt a b ra rb w
end Go.Proofs.Qxb6608902a
