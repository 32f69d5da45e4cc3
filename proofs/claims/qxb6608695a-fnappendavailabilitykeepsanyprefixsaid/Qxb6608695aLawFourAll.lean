import Derived.Test.Qxb6608695aLawFour
namespace Go.Proofs.Qxb6608695a
open Go.RowKit
set_option maxHeartbeats 400000 in
theorem law4_long (a : Option Addr) (l c : Nat) (k : Int) (GA GB : Array Value) (w : World) (hm : ¬ l ≤ 1048576) (hl : l ≤ 9223372036854775807)
    (hGA : (Try.prog.info? 23).map (·.size) = some GA.size) (hGB : (Try.prog.info? 24).map (·.size) = some GB.size) :
    Calls Try.prog 4 #[.slice a l c, .int .i64 k, .agg GA, .agg GB] w fun e w' => e = .returned (.bool true) ∧ Below w.heap.size w w' := by
  have hw0 : ((w.alloc (.cells GA 23)).alloc (.cells GB 24)).heap[w.heap.size]? = some (.cells GA 23) := heap_alloc2_old w _ _
  have hw1 : ((w.alloc (.cells GA 23)).alloc (.cells GB 24)).heap[w.heap.size + 1]? = some (.cells GB 24) := heap_alloc2_new w _ _
  have h17 := bytes17 a l c k GA GB ((w.alloc (.cells GA 23)).alloc (.cells GB 24)) (by omega)
  rw [decide_eq_false hm] at h17
  have H17 : Hid _ := h17
  clear h17
  go_enter Try.func4, Try.ntmps4
  go_wp2_with (first
    | (refine wpList_load_row rfl 23 (.tmp 6) rfl w.heap.size rfl 23 GA (0, 0) _ hw0 Try.underlying23 rfl hGA ?_)
    | (refine wpList_load_row rfl 24 (.tmp 7) rfl (w.heap.size + 1) rfl 24 GB (0, 0) _ hw1 Try.underlying24 rfl hGB ?_))
  refine Calls.mono H17.out ?_
  rintro e w1 ⟨rfl, rfl⟩
  go_wp2
  go_ret
  exact ⟨rfl, ((((Below.refl _ _).alloc (by simp) _).alloc (by simp) _).alloc (by simp; omega) _).alloc (by simp; omega) _⟩

set_option maxHeartbeats 400000 in
theorem law4_out (a : Option Addr) (l c : Nat) (k : Int) (GA GB : Array Value) (w : World) (hm : l ≤ 1048576) (hk : k < 0 ∨ (l : Int) < k)
    (hGA : (Try.prog.info? 23).map (·.size) = some GA.size) (hGB : (Try.prog.info? 24).map (·.size) = some GB.size) :
    Calls Try.prog 4 #[.slice a l c, .int .i64 k, .agg GA, .agg GB] w fun e w' => e = .returned (.bool true) ∧ Below w.heap.size w w' := by
  have hw0 : ((w.alloc (.cells GA 23)).alloc (.cells GB 24)).heap[w.heap.size]? = some (.cells GA 23) := heap_alloc2_old w _ _
  have hw1 : ((w.alloc (.cells GA 23)).alloc (.cells GB 24)).heap[w.heap.size + 1]? = some (.cells GB 24) := heap_alloc2_new w _ _
  have h17 := bytes17 a l c k GA GB ((w.alloc (.cells GA 23)).alloc (.cells GB 24)) (by omega)
  rw [decide_eq_true hm] at h17
  have H17 : Hid _ := h17
  clear h17
  rcases hk with hk | hk
  · go_enter Try.func4, Try.ntmps4
    go_wp2_with (first
      | (refine wpList_load_row rfl 23 (.tmp 6) rfl w.heap.size rfl 23 GA (0, 0) _ hw0 Try.underlying23 rfl hGA ?_)
      | (refine wpList_load_row rfl 24 (.tmp 7) rfl (w.heap.size + 1) rfl 24 GB (0, 0) _ hw1 Try.underlying24 rfl hGB ?_))
    refine Calls.mono H17.out ?_
    rintro e w1 ⟨rfl, rfl⟩
    go_wp2
    go_ret
    exact ⟨rfl, ((((Below.refl _ _).alloc (by simp) _).alloc (by simp) _).alloc (by simp; omega) _).alloc (by simp; omega) _⟩
  · have hk0 : ¬ k < 0 := by omega
    go_enter Try.func4, Try.ntmps4
    go_wp2_with (first
      | (refine wpList_load_row rfl 23 (.tmp 6) rfl w.heap.size rfl 23 GA (0, 0) _ hw0 Try.underlying23 rfl hGA ?_)
      | (refine wpList_load_row rfl 24 (.tmp 7) rfl (w.heap.size + 1) rfl 24 GB (0, 0) _ hw1 Try.underlying24 rfl hGB ?_))
    refine Calls.mono H17.out ?_
    rintro e w1 ⟨rfl, rfl⟩
    go_wp2
    go_ret
    exact ⟨rfl, ((((Below.refl _ _).alloc (by simp) _).alloc (by simp) _).alloc (by simp; omega) _).alloc (by simp; omega) _⟩

theorem law4 (a : Option Addr) (l c : Nat) (k : Int) (zs A B : List Int) (w : World) (hz : zs.length = l) (hl : l ≤ 9223372036854775807) (hc0 : a = none → c = 0) (hbd : Bd w a zs) (hA : A.length = 20) (hB : B.length = 32) :
    Calls Try.prog 4 #[.slice a l c, .int .i64 k, .agg (bytesOf A).toArray, .agg (bytesOf B).toArray] w fun e w' => e = .returned (.bool true) ∧ Below w.heap.size w w' := by
  have hGA : (Try.prog.info? 23).map (·.size) = some (bytesOf A).toArray.size := by rw [Try.size23]; simp [length_bytesOf, hA]
  have hGB : (Try.prog.info? 24).map (·.size) = some (bytesOf B).toArray.size := by rw [Try.size24]; simp [length_bytesOf, hB]
  by_cases hm : l ≤ 1048576
  · by_cases hk : k < 0 ∨ (l : Int) < k
    · exact law4_out a l c k _ _ w hm hk hGA hGB
    · obtain ⟨k', rfl⟩ := Int.eq_ofNat_of_zero_le (show 0 ≤ k by omega)
      exact law4_main a l c k' zs A B w hz hm (by omega) hc0 hbd hA hB
  · exact law4_long a l c k _ _ w hm hl hGA hGB
end Go.Proofs.Qxb6608695a
