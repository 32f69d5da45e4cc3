import Derived.Test.Qxb6608902aTime
import Derived.Lib.AppendZerosOnto
import Derived.Lib.SliceRun
import Derived.Lib.Walk
import Derived.Maps.AppendAt
namespace Go.Proofs.Qxb6608902a
open Go.RowKit

/-- The zero value of a closed container. -/
def zero97 : Value := .agg #[.int .u32 0, .bool false, .int .u8 0, .int .u32 0, .int .i64 0, .string ⟨#[]⟩, .int .u8 0, .int .i64 0, .int .u64 0, .int .u64 0]
theorem Try.info97 : (Try.prog.info? 97).map (fun i => (i.zero, i.size, i.bytes)) = some (some zero97, 10, 72) := by kernel_rfl

set_option maxHeartbeats 1000000 in
theorem grow62_zero (a : Option Addr) (n : Nat) (w : World) :
    Calls Try.prog 62 #[.slice a n n, .int .i64 0] w fun e w' => e = .returned (.slice a n n) ∧ w' = w := by
  go_enter Try.func62, Try.ntmps62
  go_wp2
  go_ret
  exact ⟨rfl, rfl⟩

set_option maxRecDepth 100000 in
set_option maxHeartbeats 1000000 in
theorem grow62_pos (base R n k : Nat) (xs : List Value) (w : World) (hn : n ≤ 4194304) (hk0 : 0 < k) (hk : k ≤ 4194304) (hbase : base ≤ w.heap.size) (hown : w.ownsRow base 97 10 (.slice (some ⟨R, 0, none⟩) n n) n xs) :
    Calls Try.prog 62 #[.slice (some ⟨R, 0, none⟩) n n, .int .i64 k] w fun e w' => ∃ c', e = .returned (.slice (some ⟨w.heap.size, 0, none⟩) n c') ∧ w'.ownsRow base 97 10 (.slice (some ⟨w.heap.size, 0, none⟩) n c') n xs ∧ w.grownBy w' none := by
  obtain ⟨i0, hi, hz0, hz1, hz2⟩ := info_parts Try.info97
  have hlen : xs.length = n * 10 := hown.1
  have hcs := hown.cells (g := R) rfl
  have hold : (Builtin.firstCells i0.size n (.slice (some ⟨R, 0, none⟩) n n)).run Try.prog w.drew = .ok xs.toArray w.drew := by
    rw [hz1]
    exact run_firstCells_some w.drew 10 n ⟨R, 0, none⟩ n n xs hlen (fun j v hj => hcs j v hj)
  have hrz : ∀ ty, (Builtin.append_ #[92, 3] ty #[.slice (some ⟨R, 0, none⟩) n n, .int .i64 k]).run Try.prog w =
      .ok (.slice (some ⟨w.heap.size, 0, none⟩) (n + k) (grownCap w (n + k) n 97)) (w.drew.alloc (.cells (xs.toArray ++ Builtin.zeroCells zero97.cells k ++ Builtin.zeroCells zero97.cells (grownCap w (n + k) n 97 - (n + k))) 97)) := fun ty =>
    Lib.run_append_grow_zeros w 92 3 ty 97 i0 zero97 .i64 .i64 Try.underlying92 Try.underlying3 hi hz0 (some ⟨R, 0, none⟩) n n xs hold k hk0 (by rw [hz1]; decide) (by omega) (by omega) (by rw [hz2]; omega)
      (growslice_fits (by omega) (by rw [hz2]; omega))
  have hGn : n + k ≤ grownCap w (n + k) n 97 := grownCap_ge w _ _ _
  have hG63 : grownCap w (n + k) n 97 ≤ maxLen := grownCap_le_maxLen w (n + k) n 97 (by unfold maxLen; omega)
  generalize grownCap w (n + k) n 97 = G at *
  have fin : (w.drew.alloc (.cells (xs.toArray ++ Builtin.zeroCells zero97.cells k ++ Builtin.zeroCells zero97.cells (G - (n + k))) 97)).ownsRow base 97 10 (.slice (some ⟨w.heap.size, 0, none⟩) n G) n xs := by
    refine ⟨hlen, .inr ⟨w.heap.size, _, _, rfl, hbase, heap_alloc_new w.drew _, by omega, hG63, ?_, ?_⟩⟩
    · simp only [Array.size_append, List.size_toArray, size_zeroCells, hlen]
      have : zero97.cells.size = 10 := rfl
      rw [this]; omega
    · simp only [Array.toList_append, List.append_assoc]
      rw [← hlen]
      exact List.take_left
  have fin2 : w.grownBy (w.drew.alloc (.cells (xs.toArray ++ Builtin.zeroCells zero97.cells k ++ Builtin.zeroCells zero97.cells (G - (n + k))) 97)) none := ⟨rfl, rfl, rfl, by simp, fun j hj _ => Below.heap_alloc w.drew _ j hj⟩
  generalize (Obj.cells (xs.toArray ++ Builtin.zeroCells zero97.cells k ++ Builtin.zeroCells zero97.cells (G - (n + k))) 97) = O at *
  have Fin : Hid _ := fin
  have Fin2 : Hid _ := fin2
  have hG63' : G ≤ 9223372036854775807 := by unfold maxLen at hG63; exact hG63
  clear fin fin2 hold hcs hown hG63
  go_enter Try.func62, Try.ntmps62
  go_wp2_with (at_builtin; refine Lib.wpList_append_run _ rfl _ _ _ _ rfl _ _ rfl rfl _ _ (hrz _) ?_)
  go_ret
  exact ⟨G, rfl, Hid.out Fin, Hid.out Fin2⟩

/-- 'slices.Grow' of a full slice. -/
theorem grow62 (base R n k : Nat) (xs : List Value) (w : World) (hn : n ≤ 4194304) (hk : k ≤ 4194304) (hbase : base ≤ w.heap.size) (hown : w.ownsRow base 97 10 (.slice (some ⟨R, 0, none⟩) n n) n xs) :
    Calls Try.prog 62 #[.slice (some ⟨R, 0, none⟩) n n, .int .i64 k] w fun e w' => ∃ R' c', e = .returned (.slice (some ⟨R', 0, none⟩) n c') ∧ w'.ownsRow base 97 10 (.slice (some ⟨R', 0, none⟩) n c') n xs ∧ w.grownBy w' none ∧ (R' = R ∨ w.heap.size ≤ R') := by
  by_cases h0 : k = 0
  · subst h0
    refine (grow62_zero _ n w).mono ?_
    rintro e w' ⟨rfl, rfl⟩
    exact ⟨R, n, rfl, hown, World.grownBy.refl _ _, .inl rfl⟩
  · refine (grow62_pos base R n k xs w hn (by omega) hk hbase hown).mono ?_
    rintro e w' ⟨c', rfl, h1, h2⟩
    exact ⟨_, c', rfl, h1, h2, .inr (Nat.le_refl _)⟩
end Go.Proofs.Qxb6608902a
